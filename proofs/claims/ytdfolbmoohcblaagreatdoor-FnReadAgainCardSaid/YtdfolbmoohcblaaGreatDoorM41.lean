/-
For FnReadAgain, part 41: W19 W20 W21 W22.
-/
import Derived.Test.YtdfolbmoohcblaaGreatDoorM40
set_option linter.all false
namespace Go.Proofs.YtdfolbmoohcblaaGreatDoor
set_option maxHeartbeats 4000000
set_option maxRecDepth 100000
open Go.RowKit
theorem NewBuffer_any (w : World) : Calls Tryz.prog 17 #[.slice none 0 0] w fun e w' => e = .returned (.pointer (some ⟨w.heap.size, 0, none⟩)) /\ WS w w.heap.size [] w' := by
 go_enter Tryz.func17, Tryz.ntmps17
 go_wp2_with fail
 go_returns
 exact ⟨rfl, Lib.fresh_isBuffer 90 5 w, (Below.refl _ _).alloc (Nat.le_refl _) _⟩
theorem MarshalString_any (B0 : Nat) (w : World) (g : Geo) (v : Value) (hfo : Fo w) (hr : GRep B0 w g v) (hv : GV g) (hl : (gT g).length <= 100000000000000) : Calls Tryz.prog 9 #[v] w (NumPost (gT g) w) := by
 have hk := wkt_any w B0 w.heap.size hfo g v []
 obtain ⟨t, u, rfl⟩ := hr.iface
 have H := Lib.hid (And.intro hk (And.intro hr (And.intro hv hl)))
 clear hk hfo hr hv hl
 go_enter Tryz.func9, Tryz.ntmps9
 go_wp2_with fail
 refine (NewBuffer_any w).mono ?_
 rintro e w1 ⟨rfl, hw1⟩
 have HW1 := Lib.hid hw1
 clear hw1
 go_wp2_with fail
 refine (H.out.1 w1 H.out.2.1 H.out.2.2.1 (by simpa using H.out.2.2.2) HW1.out).mono ?_
 rintro e w2 ⟨rfl, hw2⟩
 rw [List.nil_append] at hw2
 have HW2 := Lib.hid hw2
 clear hw2
 go_wp2_with fail
 refine (Tryz.Buffer_String w.heap.size w.heap.size (gT g) w2 HW2.out.buf).mono ?_
 rintro e w3 ⟨rfl, n, rfl⟩
 go_wp2_with fail
 go_returns
 exact ⟨rfl, HW2.out.below.trans ⟨rfl, rfl, rfl, Nat.le_refl _, fun _ _ => rfl⟩⟩
def RowK (ok : Nat -> Prop) (w : World) (e size : Nat) (v : Value) (n : Nat) (xs : List Value) : Prop :=
 w.ownsRow 0 e size v n xs /\ ∀ g, v.ownBlock = some g -> ok g
def Kept (ok : Nat -> Prop) (w w' : World) : Prop := ∀ g, ok g -> g < w.heap.size -> w'.heap[g]? = w.heap[g]?
theorem Kept.below {ok : Nat -> Prop} {w w' : World} (h : Below w.heap.size w w') : Kept ok w w' := fun g _ hg => h.block g hg
theorem RowK.kept {ok : Nat -> Prop} {w w' : World} {e size n : Nat} {v : Value} {xs : List Value} (h : RowK ok w e size v n xs) (hk : Kept ok w w') : RowK ok w' e size v n xs := by
 refine ⟨⟨h.1.1, h.1.2.imp id ?_⟩, h.2⟩
 rintro ⟨g, cap, cur, rfl, h1, h2, h3⟩
 exact ⟨g, cap, cur, rfl, h1, by rw [hk g (h.2 g rfl) (lt_of_heap h2)]; exact h2, h3⟩
theorem RowK.mono {ok ok' : Nat -> Prop} {w : World} {e size n : Nat} {v : Value} {xs : List Value} (h : RowK ok w e size v n xs) (hk : ∀ g, ok g -> g < w.heap.size -> ok' g) : RowK ok' w e size v n xs :=
 ⟨h.1, fun g hg => hk g (h.2 g hg) (h.1.lt g hg).2⟩
theorem RowK.of {B : Nat} {w : World} {e size n : Nat} {v : Value} {xs : List Value} (h : w.ownsRow B e size v n xs) : RowK (fun g => B <= g) w e size v n xs :=
 ⟨Row.of h, fun g hg => ownBlock_old h g hg⟩
def PtK (ok : Nat -> Prop) (w : World) (e : Nat) (v : Value) (ps : List (Nat × Nat)) : Prop := RowK ok w e 2 v ps.length (flat ps)
def LsK (ok : Nat -> Prop) (w : World) (E e : Nat) (v : Value) (rss : List (List (Nat × Nat))) : Prop := ∃ vs, RowK ok w E 1 v rss.length vs /\ All2 (PtK ok w e) vs rss
theorem PtK.kept {ok : Nat -> Prop} {w w' : World} {e : Nat} {v : Value} {ps : List (Nat × Nat)} (h : PtK ok w e v ps) (hk : Kept ok w w') : PtK ok w' e v ps := RowK.kept h hk
theorem LsK.kept {ok : Nat -> Prop} {w w' : World} {E e : Nat} {v : Value} {rss : List (List (Nat × Nat))} (h : LsK ok w E e v rss) (hk : Kept ok w w') : LsK ok w' E e v rss := by
 obtain ⟨vs, h1, h2⟩ := h
 exact ⟨vs, h1.kept hk, h2.imp fun _ _ h => h.kept hk⟩
theorem PtK.mono {ok ok' : Nat -> Prop} {w : World} {e : Nat} {v : Value} {ps : List (Nat × Nat)} (h : PtK ok w e v ps) (hk : ∀ g, ok g -> g < w.heap.size -> ok' g) : PtK ok' w e v ps := RowK.mono h hk
theorem LsK.mono {ok ok' : Nat -> Prop} {w : World} {E e : Nat} {v : Value} {rss : List (List (Nat × Nat))} (h : LsK ok w E e v rss) (hk : ∀ g, ok g -> g < w.heap.size -> ok' g) : LsK ok' w E e v rss := by
 obtain ⟨vs, h1, h2⟩ := h
 exact ⟨vs, h1.mono hk, h2.imp fun _ _ h => h.mono hk⟩
inductive Shp where
 | mk (k : Nat) (rss : List (List (Nat × Nat))) (ps : List Shp)
mutual
def SRep (ok : Nat -> Prop) (w : World) : Shp -> Value -> Prop
 | .mk k rss ps, v => ∃ lv pv cs, v = .agg #[.int .i64 (k : Int), lv, pv] /\ LsK ok w 39 38 lv rss /\ RowK ok w 26 3 pv ps.length cs /\ SReps ok w ps cs
def SReps (ok : Nat -> Prop) (w : World) : List Shp -> List Value -> Prop
 | [], [] => True
 | s :: ss, a :: b :: c :: r => SRep ok w s (.agg #[a, b, c]) /\ SReps ok w ss r
 | _, _ => False
end
mutual
theorem SRep.kept {ok : Nat -> Prop} {w w' : World} (hk : Kept ok w w') : ∀ (s : Shp) (v : Value), SRep ok w s v -> SRep ok w' s v
 | .mk k rss ps, v, ⟨lv, pv, cs, h1, h2, h3, h4⟩ => ⟨lv, pv, cs, h1, h2.kept hk, h3.kept hk, SReps.kept hk ps cs h4⟩
theorem SReps.kept {ok : Nat -> Prop} {w w' : World} (hk : Kept ok w w') : ∀ (ss : List Shp) (cs : List Value), SReps ok w ss cs -> SReps ok w' ss cs
 | [], [], _ => trivial
 | s :: ss, a :: b :: c :: r, ⟨h1, h2⟩ => ⟨SRep.kept hk s _ h1, SReps.kept hk ss r h2⟩
end
mutual
theorem SRep.mono {ok ok' : Nat -> Prop} {w : World} (hk : ∀ g, ok g -> g < w.heap.size -> ok' g) : ∀ (s : Shp) (v : Value), SRep ok w s v -> SRep ok' w s v
 | .mk k rss ps, v, ⟨lv, pv, cs, h1, h2, h3, h4⟩ => ⟨lv, pv, cs, h1, h2.mono hk, h3.mono hk, SReps.mono hk ps cs h4⟩
theorem SReps.mono {ok ok' : Nat -> Prop} {w : World} (hk : ∀ g, ok g -> g < w.heap.size -> ok' g) : ∀ (ss : List Shp) (cs : List Value), SReps ok w ss cs -> SReps ok' w ss cs
 | [], [], _ => trivial
 | s :: ss, a :: b :: c :: r, ⟨h1, h2⟩ => ⟨SRep.mono hk s _ h1, SReps.mono hk ss r h2⟩
end
theorem SReps.snoc {ok : Nat -> Prop} {w : World} {s : Shp} {a b c : Value} (h : SRep ok w s (.agg #[a, b, c])) : ∀ (ss : List Shp) (cs : List Value), SReps ok w ss cs -> SReps ok w (ss ++ [s]) (cs ++ [a, b, c])
 | [], [], _ => ⟨h, trivial⟩
 | _ :: ss, _ :: _ :: _ :: r, ⟨h1, h2⟩ => ⟨h1, SReps.snoc h ss r h2⟩
theorem SReps.get {ok : Nat -> Prop} {w : World} : ∀ {ss : List Shp} {cs : List Value}, SReps ok w ss cs -> ∀ {k : Nat} {s : Shp}, ss[k]? = some s -> ∃ a b c, cs[k * 3]? = some a /\ cs[k * 3 + 1]? = some b /\ cs[k * 3 + 2]? = some c /\ SRep ok w s (.agg #[a, b, c])
 | [], [], _, k, s, hk => by simp at hk
 | s0 :: ss, a :: b :: c :: r, ⟨h1, h2⟩, k, s, hk => by
  cases k with
  | zero => simp at hk; subst hk; exact ⟨a, b, c, rfl, rfl, rfl, h1⟩
  | succ k =>
   obtain ⟨a', b', c', e1, e2, e3, h⟩ := SReps.get h2 (k := k) (s := s) (by simpa using hk)
   refine ⟨a', b', c', ?_, ?_, ?_, h⟩
   ·rw [show (k + 1) * 3 = k * 3 + 3 from by omega]; exact e1
   ·rw [show (k + 1) * 3 + 1 = k * 3 + 1 + 3 from by omega]; exact e2
   ·rw [show (k + 1) * 3 + 2 = k * 3 + 2 + 3 from by omega]; exact e3
mutual
def GRepK (ok : Nat -> Prop) (w : World) : Geo -> Value -> Prop
 | .point p, v => v = .iface 47 (PV p)
 | .line ps, v => ∃ u, v = .iface 50 u /\ PtK ok w 47 u ps
 | .poly rss, v => ∃ u, v = .iface 52 u /\ LsK ok w 86 47 u rss
 | .mpoint ps, v => ∃ u, v = .iface 54 u /\ PtK ok w 47 u ps
 | .mline rss, v => ∃ u, v = .iface 56 u /\ LsK ok w 50 47 u rss
 | .mpoly xs, v => ∃ u vs, v = .iface 58 u /\ RowK ok w 52 1 u xs.length vs /\ All2 (LsK ok w 86 47) vs xs
 | .coll gs, v => ∃ u vs, v = .iface 60 u /\ RowK ok w 33 1 u gs.length vs /\ GRepKs ok w gs vs
def GRepKs (ok : Nat -> Prop) (w : World) : List Geo -> List Value -> Prop
 | [], [] => True
 | g :: gs, v :: vs => GRepK ok w g v /\ GRepKs ok w gs vs
 | _, _ => False
end
mutual
theorem GRepK.kept {ok : Nat -> Prop} {w w' : World} (hk : Kept ok w w') : ∀ (g : Geo) (v : Value), GRepK ok w g v -> GRepK ok w' g v
 | .point p, v, h => h
 | .line ps, v, ⟨u, h1, h2⟩ => ⟨u, h1, h2.kept hk⟩
 | .poly rss, v, ⟨u, h1, h2⟩ => ⟨u, h1, h2.kept hk⟩
 | .mpoint ps, v, ⟨u, h1, h2⟩ => ⟨u, h1, h2.kept hk⟩
 | .mline rss, v, ⟨u, h1, h2⟩ => ⟨u, h1, h2.kept hk⟩
 | .mpoly xs, v, ⟨u, vs, h1, h2, h3⟩ => ⟨u, vs, h1, h2.kept hk, h3.imp fun _ _ h => h.kept hk⟩
 | .coll gs, v, ⟨u, vs, h1, h2, h3⟩ => ⟨u, vs, h1, h2.kept hk, GRepKs.kept hk gs vs h3⟩
theorem GRepKs.kept {ok : Nat -> Prop} {w w' : World} (hk : Kept ok w w') : ∀ (gs : List Geo) (vs : List Value), GRepKs ok w gs vs -> GRepKs ok w' gs vs
 | [], [], _ => trivial
 | g :: gs, v :: vs, ⟨h1, h2⟩ => ⟨GRepK.kept hk g v h1, GRepKs.kept hk gs vs h2⟩
end
mutual
theorem GRepK.mono {ok ok' : Nat -> Prop} {w : World} (hk : ∀ g, ok g -> g < w.heap.size -> ok' g) : ∀ (g : Geo) (v : Value), GRepK ok w g v -> GRepK ok' w g v
 | .point p, v, h => h
 | .line ps, v, ⟨u, h1, h2⟩ => ⟨u, h1, h2.mono hk⟩
 | .poly rss, v, ⟨u, h1, h2⟩ => ⟨u, h1, h2.mono hk⟩
 | .mpoint ps, v, ⟨u, h1, h2⟩ => ⟨u, h1, h2.mono hk⟩
 | .mline rss, v, ⟨u, h1, h2⟩ => ⟨u, h1, h2.mono hk⟩
 | .mpoly xs, v, ⟨u, vs, h1, h2, h3⟩ => ⟨u, vs, h1, h2.mono hk, h3.imp fun _ _ h => h.mono hk⟩
 | .coll gs, v, ⟨u, vs, h1, h2, h3⟩ => ⟨u, vs, h1, h2.mono hk, GRepKs.mono hk gs vs h3⟩
theorem GRepKs.mono {ok ok' : Nat -> Prop} {w : World} (hk : ∀ g, ok g -> g < w.heap.size -> ok' g) : ∀ (gs : List Geo) (vs : List Value), GRepKs ok w gs vs -> GRepKs ok' w gs vs
 | [], [], _ => trivial
 | g :: gs, v :: vs, ⟨h1, h2⟩ => ⟨GRepK.mono hk g v h1, GRepKs.mono hk gs vs h2⟩
end
theorem GRepKs.snoc {ok : Nat -> Prop} {w : World} {g : Geo} {v : Value} (hg : GRepK ok w g v) : ∀ (gs : List Geo) (vs : List Value), GRepKs ok w gs vs -> GRepKs ok w (gs ++ [g]) (vs ++ [v])
 | [], [], _ => ⟨hg, trivial⟩
 | _ :: gs, _ :: vs, ⟨h1, h⟩ => ⟨h1, GRepKs.snoc hg gs vs h⟩
mutual
theorem GRepK.toG {ok : Nat -> Prop} {w : World} : ∀ (g : Geo) (v : Value), GRepK ok w g v -> GRep 0 w g v
 | .point p, v, h => h
 | .line ps, v, ⟨u, h1, h2⟩ => ⟨u, h1, h2.1⟩
 | .poly rss, v, ⟨u, h1, vs, h2, h3⟩ => ⟨u, h1, vs, h2.1, h3.imp fun _ _ h => h.1⟩
 | .mpoint ps, v, ⟨u, h1, h2⟩ => ⟨u, h1, h2.1⟩
 | .mline rss, v, ⟨u, h1, vs, h2, h3⟩ => ⟨u, h1, vs, h2.1, h3.imp fun _ _ h => h.1⟩
 | .mpoly xs, v, ⟨u, vs, h1, h2, h3⟩ => ⟨u, h1, vs, h2.1, h3.imp fun _ _ ⟨us, h4, h5⟩ => ⟨us, h4.1, h5.imp fun _ _ h => h.1⟩⟩
 | .coll gs, v, ⟨u, vs, h1, h2, h3⟩ => ⟨u, vs, h1, h2.1, GRepKs.toG gs vs h3⟩
theorem GRepKs.toG {ok : Nat -> Prop} {w : World} : ∀ (gs : List Geo) (vs : List Value), GRepKs ok w gs vs -> GReps 0 w gs vs
 | [], [], _ => trivial
 | g :: gs, v :: vs, ⟨h1, h2⟩ => ⟨GRepK.toG g v h1, GRepKs.toG gs vs h2⟩
end
mutual
theorem GRep.toK {B : Nat} {w : World} : ∀ (g : Geo) (v : Value), GRep B w g v -> GRepK (fun g => B <= g) w g v
 | .point p, v, h => h
 | .line ps, v, ⟨u, h1, h2⟩ => ⟨u, h1, RowK.of h2⟩
 | .poly rss, v, ⟨u, h1, vs, h2, h3⟩ => ⟨u, h1, vs, RowK.of h2, h3.imp fun _ _ h => RowK.of h⟩
 | .mpoint ps, v, ⟨u, h1, h2⟩ => ⟨u, h1, RowK.of h2⟩
 | .mline rss, v, ⟨u, h1, vs, h2, h3⟩ => ⟨u, h1, vs, RowK.of h2, h3.imp fun _ _ h => RowK.of h⟩
 | .mpoly xs, v, ⟨u, h1, vs, h2, h3⟩ => ⟨u, vs, h1, RowK.of h2, h3.imp fun _ _ ⟨us, h4, h5⟩ => ⟨us, RowK.of h4, h5.imp fun _ _ h => RowK.of h⟩⟩
 | .coll gs, v, ⟨u, vs, h1, h2, h3⟩ => ⟨u, vs, h1, RowK.of h2, GReps.toK gs vs h3⟩
theorem GReps.toK {B : Nat} {w : World} : ∀ (gs : List Geo) (vs : List Value), GReps B w gs vs -> GRepKs (fun g => B <= g) w gs vs
 | [], [], _ => trivial
 | g :: gs, v :: vs, ⟨h1, h2⟩ => ⟨GRep.toK g v h1, GReps.toK gs vs h2⟩
end
def polyS (rss : List (List (Nat × Nat))) : Shp := .mk 3 rss []
mutual
def shS : Geo -> Shp
 | .point p => .mk 1 [[p]] []
 | .line ps => .mk 2 [ps] []
 | .poly rss => polyS rss
 | .mpoint ps => .mk 4 [ps] []
 | .mline rss => .mk 5 rss []
 | .mpoly xs => .mk 6 [] (xs.map polyS)
 | .coll gs => .mk 7 [] (shSs gs)
def shSs : List Geo -> List Shp
 | [] => []
 | g :: gs => shS g :: shSs gs
end
theorem shSs_eq : ∀ gs : List Geo, shSs gs = gs.map shS
 | [] => rfl
 | g :: gs => by unfold shSs; rw [shSs_eq gs]; rfl
theorem kept_grown {w w' : World} {v : Value} {ok : Nat -> Prop} (h : w.grownBy w' v.ownBlock) (hn : ∀ g, ok g -> v.ownBlock ≠ some g) : Kept ok w w' :=
 fun g hg hlt => h.block g hlt (fun e => hn g hg e.symm)
theorem info38 : (Tryz.prog.info? 38).map (fun i => (i.zero, i.size, i.bytes)) = some (some (.agg #[.float .f64 0, .float .f64 0]), 2, 16) := by kernel_rfl
def CpPts (E : Nat) (w : World) (ps : List (Nat × Nat)) (n : Nat) (v3 v9 : Value) (wr : World) : Prop :=
 ∃ k : Nat, n = ps.length - k /\ k <= ps.length /\ v9 = .int .i64 k /\ Hid (wr.ownsRow w.heap.size E 2 v3 k (flat (ps.take k)) /\ Below w.heap.size w wr)
theorem RowK.cell {ok : Nat -> Prop} {w : World} {e size g n c : Nat} {xs : List Value} (h : RowK ok w e size (.slice (some ⟨g, 0, none⟩) n c) n xs) (k : Nat) {u : Value} (hu : xs[k]? = some u) : w.cell? ⟨g, k, none⟩ = some u := Row.cell h.1 k hu
theorem flat_take_next {ps : List (Nat × Nat)} {k : Nat} {p : Nat × Nat} (h : ps[k]? = some p) : flat (ps.take (k + 1)) = flat (ps.take k) ++ [.float .f64 p.1, .float .f64 p.2] := by
 rw [take_next h, flat_snoc]
theorem listOf_any (ok : Nat -> Prop) (w : World) (u : Value) (ps : List (Nat × Nat)) (h : PtK ok w 47 u ps) (hn : ps.length <= 1000000000000) :
  Calls Tryz.prog 30 #[u] w fun e w' => ∃ v, e = .returned v /\ PtK (fun g => w.heap.size <= g) w' 38 v ps /\ Below w.heap.size w w' := by
 obtain ⟨i0, hi, hz0, hz1, hz2⟩ := info_parts info38
 obtain ⟨A, c, rfl⟩ := Row.shape h.1
 have H := Lib.hid h
 clear h
 go_enter Tryz.func30, Tryz.ntmps30
 go_wp2_with fail
 go_loopg [3, 9] ps.length (fun n v3 v9 wr => CpPts 38 w ps n v3 v9 wr)
 case atStart => exact ⟨0, by omega, Nat.zero_le _, rfl, row_lit w w.heap.size 38 2 0 [] (Nat.le_refl _) rfl (by unfold maxLen; omega), below_alloc (Below.refl _ _) _⟩
 case round =>
  obtain ⟨k, hgk, hk, rfl, hws⟩ := hrel
  obtain ⟨oA, oc, rfl⟩ := Row.shape hws.out.1
  by_cases hkl : k = ps.length
  ·subst hkl
   have HWS : Hid (PtK (fun g => w.heap.size <= g) wr 38 (.slice oA ps.length oc) ps /\ Below w.heap.size w wr) := by
    have h1 := hws.out
    rw [List.take_length] at h1
    exact ⟨RowK.of h1.1, h1.2⟩
   clear hws
   go_wp2_with fail
   go_returns
   exact ⟨_, rfl, HWS.out.1, HWS.out.2⟩
  ·obtain ⟨p, hp⟩ : ∃ p, ps[k]? = some p := ⟨_, List.getElem?_eq_getElem (by omega)⟩
   obtain ⟨g, c', hA, -⟩ := Row.pos H.out.1 (by omega)
   injection hA with hA1 hA2 hA3
   subst hA1
   subst hA3
   have hpw : PtK ok wr 47 (.slice (some ⟨g, 0, none⟩) ps.length c) ps := H.out.kept (Kept.below hws.out.2)
   obtain ⟨f1, f2⟩ := flat_get ps k p hp
   have c1 := hpw.cell (k * 2) f1
   have c2 := hpw.cell (k * 2 + 1) f2
   have HP := Lib.hid hp
   have hglt : g < wr.heap.size := World.block_lt_of_cell? _ _ c1
   have hsz := hws.out.2.size
   clear hp f1 f2 hpw
   have hst := run_store_float
   have hk0 : (0 : Int) <= (k : Int) := by omega
   have hk1 : (k : Int) < (ps.length : Int) := by omega
   have hk3 : (k : Int) + 1 <= 9223372036854775807 := by omega
   go_wp2_with (at_builtin; refine wpList_append_lies _ rfl (.tmp 13) (.tmp 19) 39 rfl w.heap.size 38 i0 (.agg #[.float .f64 0, .float .f64 0]) 2 16 Tryz.underlying39 hi hz0 hz1 hz2 rfl (by decide) _ _ _ rfl ((hws.out.1.alloc _).alloc _) ⟨wr.heap.size + 1, 0, none⟩ 1 1 [.float .f64 p.1, .float .f64 p.2] rfl rfl ?d1 ?d2 (by omega) ?d3 ?d4 ?d5 _ rfl ?_)
   case d2 => exact ⟨rfl, rfl⟩
   case d3 => unfold maxLen; omega
   case d4 => omega
   case d5 => first | omega | (simp; omega)
   intro g' c' w' hown' hgr hat hlt
   have HW' : Hid (w'.ownsRow w.heap.size 38 2 (.slice (some ⟨g', 0, none⟩) (k + 1) c') (k + 1) (flat (ps.take (k + 1))) /\ Below w.heap.size w w') := by
    rw [flat_take_next HP.out]
    refine ⟨hown', ?_⟩
    have hb2 := below_alloc (below_alloc hws.out.2 (Obj.cells #[.float .f64 p.1, .float .f64 p.2] 47)) (Obj.cells #[.float .f64 p.1, .float .f64 p.2] 38)
    refine hb2.trans ⟨hgr.os, hgr.tape, hgr.output, hgr.size, fun j hj => hgr.block j (Nat.lt_of_lt_of_le hj hb2.size) (fun e => ?_)⟩
    have := ownBlock_old hws.out.1 j e.symm
    omega
   clear hown' hgr hat hlt c1 c2
   go_wp2_with fail
   go_roundg (gk - 1)
   case rel => exact ⟨k + 1, by omega, by omega, by go_num, HW'⟩
   case measure => omega
theorem pointsOf_any (ok : Nat -> Prop) (w : World) (u : Value) (ps : List (Nat × Nat)) (h : PtK ok w 38 u ps) (hn : ps.length <= 1000000000000) :
  Calls Tryz.prog 15 #[u] w fun e w' => ∃ v, e = .returned v /\ PtK (fun g => w.heap.size <= g) w' 47 v ps /\ Below w.heap.size w w' := by
 obtain ⟨i0, hi, hz0, hz1, hz2⟩ := info_parts info47
 obtain ⟨A, c, rfl⟩ := Row.shape h.1
 have H := Lib.hid h
 clear h
 go_enter Tryz.func15, Tryz.ntmps15
 go_wp2_with fail
 go_loopg [3, 9] ps.length (fun n v3 v9 wr => CpPts 47 w ps n v3 v9 wr)
 case atStart => exact ⟨0, by omega, Nat.zero_le _, rfl, row_lit w w.heap.size 47 2 0 [] (Nat.le_refl _) rfl (by unfold maxLen; omega), below_alloc (Below.refl _ _) _⟩
 case round =>
  obtain ⟨k, hgk, hk, rfl, hws⟩ := hrel
  obtain ⟨oA, oc, rfl⟩ := Row.shape hws.out.1
  by_cases hkl : k = ps.length
  ·subst hkl
   have HWS : Hid (PtK (fun g => w.heap.size <= g) wr 47 (.slice oA ps.length oc) ps /\ Below w.heap.size w wr) := by
    have h1 := hws.out
    rw [List.take_length] at h1
    exact ⟨RowK.of h1.1, h1.2⟩
   clear hws
   go_wp2_with fail
   go_returns
   exact ⟨_, rfl, HWS.out.1, HWS.out.2⟩
  ·obtain ⟨p, hp⟩ : ∃ p, ps[k]? = some p := ⟨_, List.getElem?_eq_getElem (by omega)⟩
   obtain ⟨g, c', hA, -⟩ := Row.pos H.out.1 (by omega)
   injection hA with hA1 hA2 hA3
   subst hA1
   subst hA3
   have hpw : PtK ok wr 38 (.slice (some ⟨g, 0, none⟩) ps.length c) ps := H.out.kept (Kept.below hws.out.2)
   obtain ⟨f1, f2⟩ := flat_get ps k p hp
   have c1 := hpw.cell (k * 2) f1
   have c2 := hpw.cell (k * 2 + 1) f2
   have HP := Lib.hid hp
   have hglt : g < wr.heap.size := World.block_lt_of_cell? _ _ c1
   have hsz := hws.out.2.size
   clear hp f1 f2 hpw
   have hst := run_store_float
   have hk0 : (0 : Int) <= (k : Int) := by omega
   have hk1 : (k : Int) < (ps.length : Int) := by omega
   have hk3 : (k : Int) + 1 <= 9223372036854775807 := by omega
   go_wp2_with (at_builtin; refine wpList_append_lies _ rfl (.tmp 13) (.tmp 19) 48 rfl w.heap.size 47 i0 (.agg #[.float .f64 0, .float .f64 0]) 2 16 Tryz.underlying48 hi hz0 hz1 hz2 rfl (by decide) _ _ _ rfl ((hws.out.1.alloc _).alloc _) ⟨wr.heap.size + 1, 0, none⟩ 1 1 [.float .f64 p.1, .float .f64 p.2] rfl rfl ?d1 ?d2 (by omega) ?d3 ?d4 ?d5 _ rfl ?_)
   case d2 => exact ⟨rfl, rfl⟩
   case d3 => unfold maxLen; omega
   case d4 => omega
   case d5 => first | omega | (simp; omega)
   intro g' c' w' hown' hgr hat hlt
   have HW' : Hid (w'.ownsRow w.heap.size 47 2 (.slice (some ⟨g', 0, none⟩) (k + 1) c') (k + 1) (flat (ps.take (k + 1))) /\ Below w.heap.size w w') := by
    rw [flat_take_next HP.out]
    refine ⟨hown', ?_⟩
    have hb2 := below_alloc (below_alloc hws.out.2 (Obj.cells #[.float .f64 p.1, .float .f64 p.2] 38)) (Obj.cells #[.float .f64 p.1, .float .f64 p.2] 47)
    refine hb2.trans ⟨hgr.os, hgr.tape, hgr.output, hgr.size, fun j hj => hgr.block j (Nat.lt_of_lt_of_le hj hb2.size) (fun e => ?_)⟩
    have := ownBlock_old hws.out.1 j e.symm
    omega
   clear hown' hgr hat hlt c1 c2
   go_wp2_with fail
   go_roundg (gk - 1)
   case rel => exact ⟨k + 1, by omega, by omega, by go_num, HW'⟩
   case measure => omega
def Away (B : Nat) (v : Value) : Nat -> Prop := fun g => B <= g /\ v.ownBlock ≠ some g
structure Rp (R : (Nat -> Prop) -> World -> Prop) : Prop where
 kept : ∀ ok w w', Kept ok w w' -> R ok w -> R ok w'
 mono : ∀ (ok ok' : Nat -> Prop) (w : World), (∀ g, ok g -> g < w.heap.size -> ok' g) -> R ok w -> R ok' w
theorem Rp.below {R : (Nat -> Prop) -> World -> Prop} (h : Rp R) {ok : Nat -> Prop} {w w' : World} (hr : R ok w) (hb : Below w.heap.size w w') : R ok w' := h.kept ok w w' (Kept.below hb) hr
theorem Rp.grown {R : (Nat -> Prop) -> World -> Prop} (h : Rp R) {B g' n c : Nat} {v : Value} {w w' : World} (hr : R (Away B v) w) (hg : w.grownBy w' v.ownBlock) (hat : v.ownBlock = some g' \/ g' = w.heap.size) : R (Away B (.slice (some ⟨g', 0, none⟩) n c)) w' := by
 have h1 : R (fun g => Away B v g /\ g < w.heap.size) w := h.mono _ _ w (fun g a b => ⟨a, b⟩) hr
 have h2 := h.kept _ w w' (fun g hg' hlt => hg.block g hlt (fun e => hg'.1.2 e.symm)) h1
 refine h.mono _ _ w' (fun g hg' _ => ⟨hg'.1.1, ?_⟩) h2
 intro e
 have e2 : g' = g := by simpa [Value.ownBlock] using e
 rcases hat with h3 | h3
 ·exact hg'.1.2 (by rw [h3, e2])
 ·have := hg'.2; omega
theorem away_new {B e size n : Nat} {v : Value} {w : World} {xs : List Value} (h : w.ownsRow B e size v n xs) (hB : B <= w.heap.size) : ∀ g, w.heap.size <= g -> Away B v g := by
 intro g hg
 refine ⟨Nat.le_trans hB hg, fun e => ?_⟩
 have := (h.lt g e).2
 omega
theorem rp_pts (e : Nat) (vs : List Value) (rss : List (List (Nat × Nat))) : Rp (fun ok w => All2 (PtK ok w e) vs rss) :=
 ⟨fun _ _ _ hk h => h.imp fun _ _ h => h.kept hk, fun _ _ _ hk h => h.imp fun _ _ h => h.mono hk⟩
theorem rp_lss (E e : Nat) (vs : List Value) (xs : List (List (List (Nat × Nat)))) : Rp (fun ok w => All2 (LsK ok w E e) vs xs) :=
 ⟨fun _ _ _ hk h => h.imp fun _ _ h => h.kept hk, fun _ _ _ hk h => h.imp fun _ _ h => h.mono hk⟩
theorem rp_gs (gs : List Geo) (vs : List Value) : Rp (fun ok w => GRepKs ok w gs vs) := ⟨fun _ _ _ hk h => GRepKs.kept hk gs vs h, fun _ _ _ hk h => GRepKs.mono hk gs vs h⟩
theorem rp_ss (ss : List Shp) (cs : List Value) : Rp (fun ok w => SReps ok w ss cs) := ⟨fun _ _ _ hk h => SReps.kept hk ss cs h, fun _ _ _ hk h => SReps.mono hk ss cs h⟩
theorem info39 : (Tryz.prog.info? 39).map (fun i => (i.zero, i.size, i.bytes)) = some (some (.slice none 0 0), 1, 24) := by kernel_rfl
theorem alloc_size (w : World) (o : Obj) : (w.alloc o).heap.size = w.heap.size + 1 := by show (w.heap.push o).size = _; simp
theorem row_lit_at (w : World) (base e size n g : Nat) (cs : List Value) (hg : g = w.heap.size) (hb : base <= w.heap.size) (hc : cs.length = n * size) (hn : n <= maxLen) :
  (w.alloc (Obj.cells cs.toArray e)).ownsRow base e size (.slice (some ⟨g, 0, none⟩) n n) n cs := by
 subst hg
 exact row_lit w base e size n cs hb hc hn
theorem grown_below {B e size n : Nat} {v : Value} {w0 w w' : World} {xs : List Value} (hown : w.ownsRow B e size v n xs) (hb : Below B w0 w) (hB : B <= w.heap.size) (hg : w.grownBy w' v.ownBlock) : Below B w0 w' := by
 refine hb.trans ⟨hg.os, hg.tape, hg.output, hg.size, fun j hj => hg.block j (by omega) (fun e => ?_)⟩
 have := ownBlock_old hown j e.symm
 omega
def LstR (E e : Nat) (w : World) (rss : List (List (Nat × Nat))) (n : Nat) (v vi : Value) (wr : World) : Prop :=
 ∃ (k : Nat) (vs : List Value), n = rss.length - k /\ k <= rss.length /\ vi = .int .i64 k /\ Hid (wr.ownsRow w.heap.size E 1 v k vs /\ All2 (PtK (Away w.heap.size v) wr e) vs (rss.take k) /\ Below w.heap.size w wr)
theorem first_any (ok : Nat -> Prop) (w : World) (k : Nat) (ps : List (Nat × Nat)) (rss : List (List (Nat × Nat))) (pts : List Shp) (v : Value) (h : SRep ok w (.mk k (ps :: rss) pts) v) :
  Calls Tryz.prog 14 #[v] w fun e w' => ∃ u, e = .returned u /\ PtK ok w' 38 u ps /\ Below w.heap.size w w' := by
 obtain ⟨lv, pv, cs, rfl, ⟨vs, hrow, hall⟩, hp, hps⟩ := h
 obtain ⟨g, c, rfl, -⟩ := Row.pos hrow.1 (by simp)
 obtain ⟨v0, hv0, hp0⟩ := All2.get' hall (k := 0) (b := ps) rfl
 obtain ⟨oA, oc, rfl⟩ := Row.shape hp0.1
 have c0 := hrow.cell 0 hv0
 have hl1 : ¬ (((rss.length : Int) + 1) = 0) := by omega
 have hl2 : (0 : Int) < (rss.length : Int) + 1 := by omega
 have hglt : g < w.heap.size := World.block_lt_of_cell? _ _ c0
 have H := Lib.hid hp0
 clear hp0 hall hrow hp hps
 go_enter Tryz.func14, Tryz.ntmps14
 go_wp2_with fail
 go_returns
 exact ⟨_, rfl, H.out.kept (Kept.below ((Below.refl _ _).alloc (Nat.le_refl _) _)), (Below.refl _ _).alloc (Nat.le_refl _) _⟩
theorem polygonOf_any (ok : Nat -> Prop) (w : World) (k0 : Nat) (rss : List (List (Nat × Nat))) (pts : List Shp) (v : Value) (h : SRep ok w (.mk k0 rss pts) v) (hn : rss.length <= 1000000000000) (hn2 : ∀ ps ∈ rss, ps.length <= 1000000000000) :
  Calls Tryz.prog 16 #[v] w fun e w' => ∃ u, e = .returned u /\ LsK (fun g => w.heap.size <= g) w' 86 47 u rss /\ Below w.heap.size w w' := by
 obtain ⟨lv, pv, cs, rfl, ⟨vs0, hrow, hall⟩, hp, hps⟩ := h
 obtain ⟨A, c, rfl⟩ := Row.shape hrow.1
 obtain ⟨j0, hj, hy0, hy1, hy2⟩ := info_parts info86
 have H := Lib.hid (And.intro hrow (And.intro hall hn2))
 clear hrow hall hp hps hn2
 go_enter Tryz.func16, Tryz.ntmps16
 go_wp2_with fail
 go_loopg [3, 10] rss.length (fun n v3 v10 wr => LstR 86 47 w rss n v3 v10 wr)
 case atStart => exact ⟨0, [], by omega, Nat.zero_le _, rfl, row_lit_at (w.alloc _) w.heap.size 86 1 0 _ [] (alloc_size _ _).symm (below_alloc (Below.refl _ _) _).size rfl (by unfold maxLen; omega), trivial, below_alloc (below_alloc (Below.refl _ _) _) _⟩
 case round =>
  obtain ⟨k, vs, hgk, hk, rfl, hws⟩ := hrel
  obtain ⟨oA, oc, rfl⟩ := Row.shape hws.out.1
  by_cases hkl : k = rss.length
  ·subst hkl
   have HWS : Hid (LsK (fun g => w.heap.size <= g) wr 86 47 (.slice oA rss.length oc) rss /\ Below w.heap.size w wr) := by
    have h1 := hws.out
    rw [List.take_length] at h1
    exact ⟨⟨vs, RowK.of h1.1, h1.2.1.imp fun _ _ h => h.mono fun g a _ => a.1⟩, h1.2.2⟩
   clear hws
   go_wp2_with fail
   go_returns
   exact ⟨_, rfl, HWS.out.1, HWS.out.2⟩
  ·obtain ⟨ps, hp⟩ : ∃ ps, rss[k]? = some ps := ⟨_, List.getElem?_eq_getElem (by omega)⟩
   obtain ⟨g, c', hA, -⟩ := Row.pos H.out.1.1 (by omega)
   injection hA with hA1 hA2 hA3
   subst hA1
   subst hA3
   obtain ⟨vk, hvk, hpt⟩ := All2.get' H.out.2.1 hp
   obtain ⟨kA, kc, rfl⟩ := Row.shape hpt.1
   have c1 := (H.out.1.kept (Kept.below hws.out.2.2)).cell k hvk
   have HP := Lib.hid (And.intro hp (And.intro (hpt.kept (Kept.below hws.out.2.2)) (H.out.2.2 ps (List.mem_of_getElem? hp))))
   have hglt : g < wr.heap.size := World.block_lt_of_cell? _ _ c1
   have hsz := hws.out.2.2.size
   clear hp hpt
   have hk0 : (0 : Int) <= (k : Int) := by omega
   have hk1 : (k : Int) < (rss.length : Int) := by omega
   have hk3 : (k : Int) + 1 <= 9223372036854775807 := by omega
   go_wp2_with fail
   refine (pointsOf_any ok _ _ ps HP.out.2.1 HP.out.2.2).mono ?_
   rintro e w1 ⟨u, rfl, hu, hb1⟩
   obtain ⟨uA, uc, rfl⟩ := Row.shape hu.1
   have hown1 := Row.below hws.out.1 hb1
   have hb0 := hws.out.2.2.trans (hb1.mono hsz)
   have hmem : All2 (PtK (Away w.heap.size (.slice oA k oc)) w1 47) (vs ++ [.slice uA ps.length uc]) (rss.take (k + 1)) := by
    rw [take_next HP.out.1]
    exact ((rp_pts 47 vs (rss.take k)).below hws.out.2.1 hb1).snoc (hu.mono fun g hg _ => away_new hws.out.1 hsz g hg)
   have hsz1 := hb0.size
   have HM := Lib.hid (And.intro hmem hb0)
   clear hu hb1 hmem hb0 c1
   go_wp2_with (at_builtin; refine wpList_append_lies _ rfl (.tmp 14) (.tmp 17) 52 rfl w.heap.size 86 j0 (.slice none 0 0) 1 24 Tryz.underlying52 hj hy0 hy1 hy2 rfl (by decide) _ _ _ rfl (hown1.alloc _) ⟨w1.heap.size, 0, none⟩ 1 1 [.slice uA ps.length uc] rfl rfl (one_new rfl) (one_cell rfl) (by omega) ?d3 ?d4 ?d5 _ rfl ?_)
   case d3 => unfold maxLen; omega
   case d4 => omega
   case d5 => first | omega | (simp; omega)
   intro g' c' w' hown' hgr hat hlt
   have HW' : Hid (w'.ownsRow w.heap.size 86 1 (.slice (some ⟨g', 0, none⟩) (k + 1) c') (k + 1) (vs ++ [.slice uA ps.length uc]) /\ All2 (PtK (Away w.heap.size (.slice (some ⟨g', 0, none⟩) (k + 1) c')) w' 47) (vs ++ [.slice uA ps.length uc]) (rss.take (k + 1)) /\ Below w.heap.size w w') := by
    have hm2 := (rp_pts 47 _ _).below HM.out.1 ((Below.refl _ _).alloc (Nat.le_refl _) (Obj.cells #[.slice uA ps.length uc] 86))
    refine ⟨hown', (rp_pts 47 _ _).grown hm2 hgr (by rw [alloc_size]; exact hat), grown_below (hown1.alloc _) (below_alloc HM.out.2 _) ?_ hgr⟩
    have := (below_alloc HM.out.2 (Obj.cells #[.slice uA ps.length uc] 86)).size
    exact this
   clear hown' hgr hat hlt hown1
   go_wp2_with fail
   go_roundg (gk - 1)
   case rel => exact ⟨k + 1, _, by omega, by omega, by go_num, HW'⟩
   case measure => omega
def Bld (k : Nat) (R O : Nat) (lv pv : Value) (w : World) : Prop :=
 w.heap[O]? = some (.cells #[.int .i64 (k : Int), lv, pv] 26 (0, 0)) /\ w.heap[R]? = some (.cells #[.int .i64 0, .slice none 0 0, .slice none 0 0] 26 (0, 0)) /\ R < O
theorem Bld.below {k R O : Nat} {lv pv : Value} {w w' : World} (h : Bld k R O lv pv w) (hb : Below w.heap.size w w') : Bld k R O lv pv w' :=
 ⟨(hb.block O (lt_of_heap h.1)).trans h.1, (hb.block R (lt_of_heap h.2.1)).trans h.2.1, h.2.2⟩
theorem Bld.grown {k R O e size n : Nat} {lv pv v : Value} {xs : List Value} {w w' : World} (h : Bld k R O lv pv w) (hown : w.ownsRow (O + 1) e size v n xs) (hg : w.grownBy w' v.ownBlock) : Bld k R O lv pv w' := by
 have hlt := h.2.2
 refine ⟨(hg.block O (lt_of_heap h.1) (fun e => ?_)).trans h.1, (hg.block R (lt_of_heap h.2.1) (fun e => ?_)).trans h.2.1, h.2.2⟩
 ·have := ownBlock_old hown O e.symm; omega
 ·have := ownBlock_old hown R e.symm; omega
theorem Bld.c0 {k R O : Nat} {lv pv : Value} {w : World} (h : Bld k R O lv pv w) : w.cell? ⟨O, 0, none⟩ = some (.int .i64 (k : Int)) := by rw [Joins.cell_of_block h.1]; rfl
theorem Bld.c1 {k R O : Nat} {lv pv : Value} {w : World} (h : Bld k R O lv pv w) : w.cell? ⟨O, 1, none⟩ = some lv := by rw [Joins.cell_of_block h.1]; rfl
theorem Bld.c2 {k R O : Nat} {lv pv : Value} {w : World} (h : Bld k R O lv pv w) : w.cell? ⟨O, 2, none⟩ = some pv := by rw [Joins.cell_of_block h.1]; rfl
theorem Bld.f {k R O : Nat} {lv pv : Value} {w : World} (h : Bld k R O lv pv w) (i : Nat) : w.frozen? ⟨O, i, none⟩ = false := Joins.unfrozen_of_block h.1 i
theorem Bld.rc {k R O : Nat} {lv pv : Value} {w : World} (h : Bld k R O lv pv w) : w.cell? ⟨R, 0, none⟩ = some (.int .i64 0) /\ w.cell? ⟨R, 1, none⟩ = some (.slice none 0 0) /\ w.cell? ⟨R, 2, none⟩ = some (.slice none 0 0) := by
 refine ⟨?_, ?_, ?_⟩ <;> (rw [Joins.cell_of_block h.2.1]; rfl)
theorem Bld.rf {k R O : Nat} {lv pv : Value} {w : World} (h : Bld k R O lv pv w) (i : Nat) : w.frozen? ⟨R, i, none⟩ = false := Joins.unfrozen_of_block h.2.1 i
theorem Bld.set1 {k R O : Nat} {lv pv : Value} {w : World} (h : Bld k R O lv pv w) (v : Value) : Bld k R O v pv (w.setCell ⟨O, 1, none⟩ v) := by
 refine ⟨?_, ?_, h.2.2⟩
 ·rw [Joins.block_setCell (i := 1) h.1]; rfl
 ·rw [Below.heap_setCell _ _ _ _ (fun e => by have := h.2.2; simp at e; omega)]; exact h.2.1
theorem Bld.set2 {k R O : Nat} {lv pv : Value} {w : World} (h : Bld k R O lv pv w) (v : Value) : Bld k R O lv v (w.setCell ⟨O, 2, none⟩ v) := by
 refine ⟨?_, ?_, h.2.2⟩
 ·rw [Joins.block_setCell (i := 2) h.1]; rfl
 ·rw [Below.heap_setCell _ _ _ _ (fun e => by have := h.2.2; simp at e; omega)]; exact h.2.1
theorem kept_set {ok : Nat -> Prop} {w : World} {O i : Nat} {v : Value} (h : ∀ g, ok g -> g ≠ O) : Kept ok w (w.setCell ⟨O, i, none⟩ v) := fun g hg _ => Below.heap_setCell _ _ _ _ (fun e => h g hg (by first | exact e | exact e.symm | simpa using e | simpa using e.symm))
theorem set3 {w : World} {R : Nat} {x y z : Value} (h : w.heap[R]? = some (.cells #[x, y, z] 26 (0, 0))) (a b c : Value) :
  (((w.setCell ⟨R, 0, none⟩ a).setCell ⟨R, 1, none⟩ b).setCell ⟨R, 2, none⟩ c).heap[R]? = some (.cells #[a, b, c] 26 (0, 0)) := by
 have h1 : (w.setCell ⟨R, 0, none⟩ a).heap[R]? = some (.cells #[a, y, z] 26 (0, 0)) := by rw [Joins.block_setCell (i := 0) h]; rfl
 have h2 : ((w.setCell ⟨R, 0, none⟩ a).setCell ⟨R, 1, none⟩ b).heap[R]? = some (.cells #[a, b, z] 26 (0, 0)) := by rw [Joins.block_setCell (i := 1) h1]; rfl
 rw [Joins.block_setCell (i := 2) h2]; rfl
theorem three_cells {w : World} {R : Nat} {a b c : Value} (h : w.heap[R]? = some (.cells #[a, b, c] 26 (0, 0))) : w.cell? ⟨R, 0, none⟩ = some a /\ w.cell? ⟨R, 1, none⟩ = some b /\ w.cell? ⟨R, 2, none⟩ = some c := by
 refine ⟨?_, ?_, ?_⟩ <;> (rw [Joins.cell_of_block h]; rfl)
theorem kept_set3 {ok : Nat -> Prop} {w : World} {R : Nat} {a b c : Value} (h : ∀ g, ok g -> g ≠ R) : Kept ok w (((w.setCell ⟨R, 0, none⟩ a).setCell ⟨R, 1, none⟩ b).setCell ⟨R, 2, none⟩ c) := by
 intro g hg hlt
 have e : ∀ (i : Nat) (v : Value) (w : World), (w.setCell ⟨R, i, none⟩ v).heap[g]? = w.heap[g]? := fun i v w => Below.heap_setCell _ _ _ _ (fun e => h g hg (by first | exact e | exact e.symm | simpa using e | simpa using e.symm))
 rw [e, e, e]
theorem below_set3 {w0 w : World} {B R : Nat} {a b c : Value} (h : Below B w0 w) (hR : B <= R) : Below B w0 (((w.setCell ⟨R, 0, none⟩ a).setCell ⟨R, 1, none⟩ b).setCell ⟨R, 2, none⟩ c) :=
 ((h.setCell (p := ⟨R, 0, none⟩) hR _).setCell (p := ⟨R, 1, none⟩) hR _).setCell (p := ⟨R, 2, none⟩) hR _
def LpR (k0 E e : Nat) (w : World) (R O : Nat) (rss : List (List (Nat × Nat))) (n : Nat) (vi : Value) (wr : World) : Prop :=
 ∃ (k : Nat) (lv : Value) (vs : List Value), n = rss.length - k /\ k <= rss.length /\ vi = .int .i64 k /\ Hid (Bld k0 R O lv (.slice none 0 0) wr /\ wr.ownsRow (O + 1) E 1 lv k vs /\ All2 (PtK (Away (O + 1) lv) wr e) vs (rss.take k) /\ Below w.heap.size w wr)
theorem polygonShape_any (ok : Nat -> Prop) (w : World) (u : Value) (rss : List (List (Nat × Nat))) (h : LsK ok w 86 47 u rss) (hn : rss.length <= 1000000000000) (hn2 : ∀ ps ∈ rss, ps.length <= 1000000000000) :
  Calls Tryz.prog 31 #[u] w fun e w' => ∃ v, e = .returned v /\ SRep (fun g => w.heap.size <= g) w' (polyS rss) v /\ Below w.heap.size w w' := by
 obtain ⟨vs0, hrow, hall⟩ := h
 obtain ⟨A, c, rfl⟩ := Row.shape hrow.1
 obtain ⟨j0, hj, hy0, hy1, hy2⟩ := info_parts info39
 have H := Lib.hid (And.intro hrow (And.intro hall hn2))
 clear hrow hall hn2
 obtain ⟨R, hR⟩ : ∃ R, w.heap.size = R := ⟨_, rfl⟩
 obtain ⟨O, hO⟩ : ∃ O, R + 1 = O := ⟨_, rfl⟩
 go_enter Tryz.func31, Tryz.ntmps31
 go_wp2_with fail
 go_loopg [9] rss.length (fun n v9 wr => LpR 3 39 38 w R O rss n v9 wr)
 case atStart =>
  refine ⟨0, .slice none 0 0, [], by omega, Nat.zero_le _, rfl, ⟨?_, ?_, by omega⟩, World.ownsRow_nil _ _ _ _, trivial, below_alloc (below_alloc (Below.refl _ _) _) _⟩
  ·rw [<- hO, <- hR, <- alloc_size w (Obj.cells #[.int .i64 0, .slice none 0 0, .slice none 0 0] 26)]
   exact heap_alloc_new _ _
  ·rw [<- hR]
   exact (Below.heap_alloc _ _ _ (by rw [alloc_size]; omega)).trans (heap_alloc_new w _)
 case round =>
  obtain ⟨k, lv, vs, hgk, hk, rfl, hws⟩ := hrel
  obtain ⟨oA, oc, rfl⟩ := Row.shape hws.out.2.1
  by_cases hkl : k = rss.length
  ·subst hkl
   have cO0 := hws.out.1.c0
   have cO1 := hws.out.1.c1
   have cO2 := hws.out.1.c2
   obtain ⟨r0, r1, r2⟩ := hws.out.1.rc
   have f0 := hws.out.1.rf 0
   have f1 := hws.out.1.rf 1
   have f2 := hws.out.1.rf 2
   go_wp2_with fail
   have hs3 := set3 hws.out.1.2.1 (.int .i64 3) (.slice oA rss.length oc) (.slice none 0 0)
   obtain ⟨q0, q1, q2⟩ := three_cells hs3
   refine bodyPost_ret (v := .agg #[.int .i64 3, .slice oA rss.length oc, .slice none 0 0]) (by simp [results, Tryz.results31, go_sem, q0, q1, q2]) rfl ⟨_, rfl, ⟨.slice oA rss.length oc, .slice none 0 0, [], rfl, ?_, ⟨World.ownsRow_nil _ _ _ _, fun g hg => by simp [Value.ownBlock] at hg⟩, trivial⟩, below_set3 hws.out.2.2.2 (by omega)⟩
   have hlt := hws.out.1.2.2
   have hl := hws.out.2.2.1
   rw [List.take_length] at hl
   have hk := kept_set3 (ok := fun g => O + 1 <= g) (w := wr) (R := R) (a := .int .i64 3) (b := .slice oA rss.length oc) (c := .slice none 0 0) (fun g hg => by omega)
   exact ((show LsK (fun g => O + 1 <= g) wr 39 38 (.slice oA rss.length oc) rss from ⟨vs, RowK.of hws.out.2.1, hl.imp fun _ _ h => h.mono fun g a _ => a.1⟩).kept hk).mono fun g hg _ => by omega
  ·obtain ⟨ps, hp⟩ : ∃ ps, rss[k]? = some ps := ⟨_, List.getElem?_eq_getElem (by omega)⟩
   obtain ⟨g, c', hA, -⟩ := Row.pos H.out.1.1 (by omega)
   injection hA with hA1 hA2 hA3
   subst hA1
   subst hA3
   obtain ⟨vk, hvk, hpt⟩ := All2.get' H.out.2.1 hp
   obtain ⟨kA, kc, rfl⟩ := Row.shape hpt.1
   have c1 := (H.out.1.kept (Kept.below hws.out.2.2.2)).cell k hvk
   have HP := Lib.hid (And.intro hp (And.intro (hpt.kept (Kept.below hws.out.2.2.2)) (H.out.2.2 ps (List.mem_of_getElem? hp))))
   have cO := hws.out.1.c1
   have fO := hws.out.1.f 1
   have hsz := hws.out.2.2.2.size
   have hOs : O < wr.heap.size := lt_of_heap hws.out.1.1
   clear hp hpt
   have hk0 : (0 : Int) <= (k : Int) := by omega
   have hk1 : (k : Int) < (rss.length : Int) := by omega
   have hk3 : (k : Int) + 1 <= 9223372036854775807 := by omega
   go_wp2_with fail
   go_region_law (first
    | (go_simp; go_at_call 30; refine (listOf_any ok wr.drew _ ps (PtK.kept (w' := wr.drew) HP.out.2.1 (fun _ _ _ => rfl)) HP.out.2.2).mono ?_; rintro e w1 ⟨u, rfl, hu, hb1⟩; obtain ⟨uA, uc, rfl⟩ := Row.shape hu.1; have hb1 : Below wr.heap.size wr w1 := (Below.refl _ _).drew.trans hb1; have hl1 := hws.out.1.below hb1; have cO1 := hl1.c1; have cO9 := fun (o : Obj) => (hl1.below ((Below.refl _ _).alloc (Nat.le_refl _) o)).c1; have hown1 := Row.below hws.out.2.1 hb1; have hO1 : O + 1 <= w1.heap.size := Nat.lt_of_lt_of_le hOs hb1.size)
    | (refine step_append_lies _ rfl (.tmp 14) (.tmp 17) 23 rfl (O + 1) 39 j0 (.slice none 0 0) 1 24 Tryz.underlying23 hj hy0 hy1 hy2 rfl (by decide) (.slice oA k oc) k vs (by rfl) (hown1.alloc _) ⟨w1.heap.size, 0, none⟩ 1 1 [.slice uA ps.length uc] (by rfl) rfl (one_new rfl) (one_cell rfl) (by omega) (by unfold maxLen; omega) (by omega) (by rw [alloc_size]; omega) _ rfl ?_; intro g' c' w' hown' hgr hat hlt; have hl2 := (hl1.below ((Below.refl _ _).alloc (Nat.le_refl _) _)).grown (hown1.alloc _) hgr; have cO2 := hl2.c1; have fO2 := hl2.f 1))
   all_goals (
    have HW' : Hid (Bld 3 R O (.slice (some ⟨g', 0, none⟩) (k + 1) c') (.slice none 0 0) (w'.setCell ⟨O, 1, none⟩ (.slice (some ⟨g', 0, none⟩) (k + 1) c')) /\ (w'.setCell ⟨O, 1, none⟩ (.slice (some ⟨g', 0, none⟩) (k + 1) c')).ownsRow (O + 1) 39 1 (.slice (some ⟨g', 0, none⟩) (k + 1) c') (k + 1) (vs ++ [.slice uA ps.length uc]) /\ All2 (PtK (Away (O + 1) (.slice (some ⟨g', 0, none⟩) (k + 1) c')) (w'.setCell ⟨O, 1, none⟩ (.slice (some ⟨g', 0, none⟩) (k + 1) c')) 38) (vs ++ [.slice uA ps.length uc]) (rss.take (k + 1)) /\ Below w.heap.size w (w'.setCell ⟨O, 1, none⟩ (.slice (some ⟨g', 0, none⟩) (k + 1) c'))) := by
     have hmem : All2 (PtK (Away (O + 1) (.slice oA k oc)) w1 38) (vs ++ [.slice uA ps.length uc]) (rss.take (k + 1)) := by
      rw [take_next HP.out.1]
      exact ((rp_pts 38 vs (rss.take k)).below hws.out.2.2.1 hb1).snoc (hu.mono fun g hg _ => away_new hws.out.2.1 hOs g hg)
     have hm2 := (rp_pts 38 _ _).below hmem ((Below.refl _ _).alloc (Nat.le_refl _) (Obj.cells #[.slice uA ps.length uc] 39))
     have hm3 := (rp_pts 38 _ _).grown (g' := g') (n := k + 1) (c := c') hm2 hgr (by first | exact hat | (rw [alloc_size]; exact hat))
     have hb2 := hws.out.2.2.2.trans (hb1.mono hsz)
     have hb3 := below_alloc hb2 (Obj.cells #[.slice uA ps.length uc] 39)
     have hb4 : Below w.heap.size w w' := hb3.trans ⟨hgr.os, hgr.tape, hgr.output, hgr.size, fun j hj => hgr.block j (Nat.lt_of_lt_of_le hj hb3.size) (fun e => by have := ownBlock_old hown1 j e.symm; omega)⟩
     refine ⟨hl2.set1 _, ?_, (rp_pts 38 _ _).kept _ _ _ (kept_set fun g hg => by have := hg.1; omega) hm3, hb4.setCell (p := ⟨O, 1, none⟩) (by show w.heap.size <= O; omega) _⟩
     exact Row.kept (base := 0) (S := fun t => t = 26) hown' (Keep.setCell (S := fun t => t = 26) (a := ⟨O, 1, none⟩) hl2.1 (Nat.zero_le _) rfl _) (.inr (by decide))
    clear hown' hgr hat hlt hown1 hu hb1 hl1 hl2 cO cO1 cO2 cO9 fO fO2 c1
    go_wp2_with fail
    go_roundg (gk - 1)
    case rel => exact ⟨k + 1, _, _, by omega, by omega, by go_num, HW'⟩
    case measure => omega)
end Go.Proofs.YtdfolbmoohcblaaGreatDoor
