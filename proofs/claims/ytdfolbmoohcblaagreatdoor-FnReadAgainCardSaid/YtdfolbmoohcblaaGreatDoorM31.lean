/-
For FnReadAgain, part 31: W12f W13 W13a.
-/
import Derived.Test.YtdfolbmoohcblaaGreatDoorM29
import Derived.Test.YtdfolbmoohcblaaGreatDoorM30
set_option linter.all false
namespace Go.Proofs.YtdfolbmoohcblaaGreatDoor
set_option maxHeartbeats 4000000
set_option maxRecDepth 100000
open Go.RowKit
def UptPost (l : List UInt8) (w : World) (e : Ending) (w' : World) : Prop :=
 Below w.heap.size w w' /\ ((∃ p : Nat × Nat, e = .returned (.tuple #[PV p, .nilIface]) /\ ∃ t, brk (l.drop 5) = some t /\ PtR t p) \/ (∃ (p : Nat × Nat) (t : Nat) (u : Value), e = .returned (.tuple #[PV p, .iface t u]) /\ (brk (l.drop 5) = none \/ ∃ t, brk (l.drop 5) = some t /\ ptP t = none)))
theorem set2_below {w w1 : World} {g : Nat} (h : Below g w w1) (x y : Value) : Below g w ((w1.setCell ⟨g, 0, none⟩ x).setCell ⟨g, 1, none⟩ y) :=
 (h.setCell (p := ⟨g, 0, none⟩) (Nat.le_refl _) _).setCell (p := ⟨g, 1, none⟩) (Nat.le_refl _) _
theorem pt_cellsA {w1 : World} {g : Nat} {u v : Value} (hc0 : w1.heap[g]? = some (.cells #[u, v] 47 (0, 0))) (x y : Value) (o : Obj) :
  (((w1.setCell ⟨g, 0, none⟩ x).setCell ⟨g, 1, none⟩ y).alloc o).cell? ⟨g, 0, none⟩ = some x /\ (((w1.setCell ⟨g, 0, none⟩ x).setCell ⟨g, 1, none⟩ y).alloc o).cell? ⟨g, 1, none⟩ = some y := by
 have h1 := Joins.block_setCell (i := 0) hc0 x
 have h2 := Joins.block_setCell (i := 1) h1 y
 have h3 : (((w1.setCell ⟨g, 0, none⟩ x).setCell ⟨g, 1, none⟩ y).alloc o).heap[g]? = some _ := (((Below.refl _ _).alloc (Nat.le_refl _) o).block g (Array.getElem?_eq_some_iff.1 h2).1).trans h2
 exact ⟨by rw [Joins.cell_of_block h3]; rfl, by rw [Joins.cell_of_block h3]; rfl⟩
theorem uPoint_any (s : ByteArray) (w : World) (hs : s.size <= 1099511627776) (h5 : 5 <= s.size) (hre : RE w) : Calls Tryz.prog 23 #[.string s] w (UptPost (ls s) w) := by
 have hb0 : Below w.heap.size w (w.alloc (Obj.cells #[.float .f64 0, .float .f64 0] 47)) := (Below.refl _ w).alloc (Nat.le_refl _) _
 have hbk := trimSpaceBrackets_any (s.extract 5 s.size) (w.alloc (Obj.cells #[.float .f64 0, .float .f64 0] 47)) (by rw [ByteArray.size_extract]; omega) (hre.below hb0).env
 have H := Lib.hid (And.intro hbk (And.intro hre hb0))
 clear hbk hre hb0
 have hst := run_store_float
 have hx : ls (s.extract 5 s.size) = (ls s).drop 5 := by rw [ls_extract, List.take_of_length_le (by simp [ls_length])]
 have HX := Lib.hid hx
 clear hx
 go_enter Tryz.func23, Tryz.ntmps23
 go_wp2_with fail
 refine H.out.1.mono ?_
 rintro e w1 ⟨hb1, ⟨r, hr, rfl⟩ | ⟨hr, t, u, rfl⟩⟩
 ·have hrl := brk_len hr
  rw [ls_length, ByteArray.size_extract] at hrl
  rw [HX.out] at hr
  have HB : Hid (Below w.heap.size w w1 /\ w1.heap[w.heap.size]? = some (.cells #[.float .f64 0, .float .f64 0] 47 (0, 0)) /\ brk ((ls s).drop 5) = some r) := ⟨H.out.2.2.trans (hb1.mono (by simp)), by rw [hb1.block _ (by simp)]; exact heap_alloc_new w _, hr⟩
  clear hb1 hr
  obtain ⟨q, hq⟩ : ∃ q, bs r = q := ⟨_, rfl⟩
  have hql : ls q = r := by rw [<- hq, ls_bs]
  have hqs : q.size <= s.size := by rw [<- ls_length q, hql]; omega
  rw [hq]
  have HQ := Lib.hid hql
  clear hq hql hrl
  have hpp := parsePoint_any q w1 (by omega) (H.out.2.1.below HB.out.1)
  have HP := Lib.hid hpp
  clear hpp
  go_wp2_with fail
  refine HP.out.mono ?_
  rintro e w2 ⟨hb2, ⟨p, hv1, hv2, rfl, hp⟩ | ⟨hnone, p, t, u, rfl⟩⟩
  ·have hc2 : w2.heap[w.heap.size]? = some (.cells #[.float .f64 0, .float .f64 0] 47 (0, 0)) := by rw [hb2.block _ (Array.getElem?_eq_some_iff.1 HB.out.2.1).1]; exact HB.out.2.1
   have k0 : w2.cell? ⟨w.heap.size, 0, none⟩ = some (.float .f64 0) := by rw [Joins.cell_of_block hc2]; rfl
   have k1 : w2.cell? ⟨w.heap.size, 1, none⟩ = some (.float .f64 0) := by rw [Joins.cell_of_block hc2]; rfl
   have uf0 : w2.frozen? ⟨w.heap.size, 0, none⟩ = false := Joins.unfrozen_of_block hc2 0
   have uf1 : w2.frozen? ⟨w.heap.size, 1, none⟩ = false := Joins.unfrozen_of_block hc2 1
   have hlt : w.heap.size < w2.heap.size := (Array.getElem?_eq_some_iff.1 hc2).1
   have hne : ¬ w.heap.size = w2.heap.size := by omega
   have hne' : ¬ w2.heap.size = w.heap.size := by omega
   have HE : Hid (Below w.heap.size w w2 /\ w2.heap[w.heap.size]? = some (.cells #[.float .f64 0, .float .f64 0] 47 (0, 0)) /\ PtR r p) := ⟨HB.out.1.trans (hb2.mono HB.out.1.size), hc2, by rw [<- HQ.out]; exact ⟨hv1, hv2, hp⟩⟩
   clear hb2 hv1 hv2 hp hc2
   unfold PV
   go_wp2_with fail
   obtain ⟨q0, q1⟩ := pt_cellsA HE.out.2.1 (.float .f64 p.1) (.float .f64 p.2) (Obj.cells #[.float .f64 p.1, .float .f64 p.2] 47)
   refine bodyPost_ret (v := .tuple #[PV p, .nilIface]) (by simp [PV, results, Tryz.results23, go_sem, q0, q1]) rfl ⟨?_, .inl ⟨p, rfl, r, HB.out.2.2, HE.out.2.2⟩⟩
   exact below_alloc (set2_below HE.out.1 _ _) _
  ·have hc2 : w2.heap[w.heap.size]? = some (.cells #[.float .f64 0, .float .f64 0] 47 (0, 0)) := by rw [hb2.block _ (Array.getElem?_eq_some_iff.1 HB.out.2.1).1]; exact HB.out.2.1
   have k0 : w2.cell? ⟨w.heap.size, 0, none⟩ = some (.float .f64 0) := by rw [Joins.cell_of_block hc2]; rfl
   have k1 : w2.cell? ⟨w.heap.size, 1, none⟩ = some (.float .f64 0) := by rw [Joins.cell_of_block hc2]; rfl
   have uf0 : w2.frozen? ⟨w.heap.size, 0, none⟩ = false := Joins.unfrozen_of_block hc2 0
   have uf1 : w2.frozen? ⟨w.heap.size, 1, none⟩ = false := Joins.unfrozen_of_block hc2 1
   have hlt : w.heap.size < w2.heap.size := (Array.getElem?_eq_some_iff.1 hc2).1
   have hne : ¬ w.heap.size = w2.heap.size := by omega
   have hne' : ¬ w2.heap.size = w.heap.size := by omega
   have HE : Hid (Below w.heap.size w w2 /\ w2.heap[w.heap.size]? = some (.cells #[.float .f64 0, .float .f64 0] 47 (0, 0)) /\ ptP r = none) := ⟨HB.out.1.trans (hb2.mono HB.out.1.size), hc2, by rw [<- HQ.out]; exact hnone⟩
   clear hb2 hnone hc2
   unfold PV
   go_wp2_with fail
   obtain ⟨q0, q1⟩ := pt_cellsA HE.out.2.1 (.float .f64 0) (.float .f64 0) (Obj.cells #[.float .f64 p.1, .float .f64 p.2] 47)
   refine bodyPost_ret (v := .tuple #[PV (0, 0), .iface t u]) (by simp [PV, results, Tryz.results23, go_sem, q0, q1]) rfl ⟨?_, .inr ⟨(0, 0), t, u, rfl, .inr ⟨r, HB.out.2.2, HE.out.2.2⟩⟩⟩
   exact below_alloc (set2_below HE.out.1 _ _) _
 ·have hc1 : w1.heap[w.heap.size]? = some (.cells #[.float .f64 0, .float .f64 0] 47 (0, 0)) := by rw [hb1.block _ (by simp)]; exact heap_alloc_new w _
  have k0 : w1.cell? ⟨w.heap.size, 0, none⟩ = some (.float .f64 0) := by rw [Joins.cell_of_block hc1]; rfl
  have k1 : w1.cell? ⟨w.heap.size, 1, none⟩ = some (.float .f64 0) := by rw [Joins.cell_of_block hc1]; rfl
  have uf0 : w1.frozen? ⟨w.heap.size, 0, none⟩ = false := Joins.unfrozen_of_block hc1 0
  have uf1 : w1.frozen? ⟨w.heap.size, 1, none⟩ = false := Joins.unfrozen_of_block hc1 1
  have HB : Hid (Below w.heap.size w w1 /\ w1.heap[w.heap.size]? = some (.cells #[.float .f64 0, .float .f64 0] 47 (0, 0)) /\ brk ((ls s).drop 5) = none) := ⟨H.out.2.2.trans (hb1.mono (by simp)), hc1, by rw [<- HX.out]; exact hr⟩
  clear hb1 hr hc1
  go_wp2_with fail
  obtain ⟨q0, q1⟩ := pt_cells HB.out.2.1 (.float .f64 0) (.float .f64 0)
  refine bodyPost_ret (v := .tuple #[PV (0, 0), .iface t u]) (by simp [PV, results, Tryz.results23, go_sem, q0, q1]) rfl ⟨?_, .inr ⟨(0, 0), t, u, rfl, .inl HB.out.2.2⟩⟩
  exact set2_below HB.out.1 _ _
inductive Geo where
 | point (p : Nat × Nat)
 | line (ps : List (Nat × Nat))
 | poly (rss : List (List (Nat × Nat)))
 | mpoint (ps : List (Nat × Nat))
 | mline (rss : List (List (Nat × Nat)))
 | mpoly (xs : List (List (List (Nat × Nat))))
 | coll (gs : List Geo)
mutual
def GRep (B : Nat) (w : World) : Geo -> Value -> Prop
 | .point p, v => v = .iface 47 (PV p)
 | .line ps, v => ∃ u, v = .iface 50 u /\ Pts B w u ps
 | .poly rss, v => ∃ u, v = .iface 52 u /\ Rws B 86 w u rss
 | .mpoint ps, v => ∃ u, v = .iface 54 u /\ Pts B w u ps
 | .mline rss, v => ∃ u, v = .iface 56 u /\ Rws B 50 w u rss
 | .mpoly xs, v => ∃ u, v = .iface 58 u /\ Pls B w u xs
 | .coll gs, v => ∃ u vs, v = .iface 60 u /\ w.ownsRow B 33 1 u gs.length vs /\ GReps B w gs vs
def GReps (B : Nat) (w : World) : List Geo -> List Value -> Prop
 | [], [] => True
 | g :: gs, v :: vs => GRep B w g v /\ GReps B w gs vs
 | _, _ => False
end
theorem Pls.mono {B B' : Nat} {w : World} {v : Value} {xs : List (List (List (Nat × Nat)))} (h : Pls B w v xs) (hB : B' <= B) : Pls B' w v xs := by
 obtain ⟨vs, h1, h2⟩ := h
 exact ⟨vs, owns_mono h1 hB, h2.imp fun a c hac => hac.mono hB⟩
def Above (B : Nat) (w w' : World) : Prop := ∀ k, B <= k -> k < w.heap.size -> w'.heap[k]? = w.heap[k]?
theorem owns_above {B e size n : Nat} {w w' : World} {v : Value} {xs : List Value} (h : w.ownsRow B e size v n xs) (ha : Above B w w') : w'.ownsRow B e size v n xs := by
 refine ⟨h.1, h.2.imp id ?_⟩
 rintro ⟨g, cap, cur, h1, h2, h3, h4⟩
 exact ⟨g, cap, cur, h1, h2, by rw [ha g h2 (lt_of_heap h3)]; exact h3, h4⟩
theorem Rws.above {B e : Nat} {w w' : World} {v : Value} {rss : List (List (Nat × Nat))} (h : Rws B e w v rss) (ha : Above B w w') : Rws B e w' v rss := by
 obtain ⟨vs, h1, h2⟩ := h
 exact ⟨vs, owns_above h1 ha, h2.imp fun a c hac => owns_above hac ha⟩
theorem Pls.above {B : Nat} {w w' : World} {v : Value} {xs : List (List (List (Nat × Nat)))} (h : Pls B w v xs) (ha : Above B w w') : Pls B w' v xs := by
 obtain ⟨vs, h1, h2⟩ := h
 exact ⟨vs, owns_above h1 ha, h2.imp fun a c hac => hac.above ha⟩
mutual
theorem GRep.above {B : Nat} {w w' : World} (ha : Above B w w') : ∀ (g : Geo) (v : Value), GRep B w g v -> GRep B w' g v
 | .point p, v, h => h
 | .line ps, v, ⟨u, h1, h2⟩ => ⟨u, h1, owns_above h2 ha⟩
 | .poly rss, v, ⟨u, h1, h2⟩ => ⟨u, h1, h2.above ha⟩
 | .mpoint ps, v, ⟨u, h1, h2⟩ => ⟨u, h1, owns_above h2 ha⟩
 | .mline rss, v, ⟨u, h1, h2⟩ => ⟨u, h1, h2.above ha⟩
 | .mpoly xs, v, ⟨u, h1, h2⟩ => ⟨u, h1, h2.above ha⟩
 | .coll gs, v, ⟨u, vs, h1, h2, h3⟩ => ⟨u, vs, h1, owns_above h2 ha, GReps.above ha gs vs h3⟩
theorem GReps.above {B : Nat} {w w' : World} (ha : Above B w w') : ∀ (gs : List Geo) (vs : List Value), GReps B w gs vs -> GReps B w' gs vs
 | [], [], _ => trivial
 | g :: gs, v :: vs, ⟨h1, h2⟩ => ⟨GRep.above ha g v h1, GReps.above ha gs vs h2⟩
end
mutual
theorem GRep.mono {B B' : Nat} {w : World} (hB : B' <= B) : ∀ (g : Geo) (v : Value), GRep B w g v -> GRep B' w g v
 | .point p, v, h => h
 | .line ps, v, ⟨u, h1, h2⟩ => ⟨u, h1, owns_mono h2 hB⟩
 | .poly rss, v, ⟨u, h1, h2⟩ => ⟨u, h1, h2.mono hB⟩
 | .mpoint ps, v, ⟨u, h1, h2⟩ => ⟨u, h1, owns_mono h2 hB⟩
 | .mline rss, v, ⟨u, h1, h2⟩ => ⟨u, h1, h2.mono hB⟩
 | .mpoly xs, v, ⟨u, h1, h2⟩ => ⟨u, h1, h2.mono hB⟩
 | .coll gs, v, ⟨u, vs, h1, h2, h3⟩ => ⟨u, vs, h1, owns_mono h2 hB, GReps.mono hB gs vs h3⟩
theorem GReps.mono {B B' : Nat} {w : World} (hB : B' <= B) : ∀ (gs : List Geo) (vs : List Value), GReps B w gs vs -> GReps B' w gs vs
 | [], [], _ => trivial
 | g :: gs, v :: vs, ⟨h1, h2⟩ => ⟨GRep.mono hB g v h1, GReps.mono hB gs vs h2⟩
end
theorem above_below {B : Nat} {w w' : World} (h : Below w.heap.size w w') : Above B w w' := fun k _ hk => h.block k hk
theorem GRep.below {B : Nat} {w w' : World} {g : Geo} {v : Value} (h : GRep B w g v) (hb : Below w.heap.size w w') : GRep B w' g v := GRep.above (above_below hb) g v h
theorem GReps.below {B : Nat} {w w' : World} {gs : List Geo} {vs : List Value} (h : GReps B w gs vs) (hb : Below w.heap.size w w') : GReps B w' gs vs := GReps.above (above_below hb) gs vs h
theorem GReps.len {B : Nat} {w : World} : ∀ (gs : List Geo) (vs : List Value), GReps B w gs vs -> gs.length = vs.length
 | [], [], _ => rfl
 | _ :: gs, _ :: vs, ⟨_, h⟩ => by rw [List.length_cons, List.length_cons, GReps.len gs vs h]
theorem GReps.snoc {B : Nat} {w : World} {g : Geo} {v : Value} (hg : GRep B w g v) : ∀ (gs : List Geo) (vs : List Value), GReps B w gs vs -> GReps B w (gs ++ [g]) (vs ++ [v])
 | [], [], _ => ⟨hg, trivial⟩
 | _ :: gs, _ :: vs, ⟨h1, h⟩ => ⟨h1, GReps.snoc hg gs vs h⟩
def kindOf (s : List UInt8) : Nat :=
 let u := up20 s
 if u.take 5 == [80, 79, 73, 78, 84] then 0
 else if u.take 10 == [76, 73, 78, 69, 83, 84, 82, 73, 78, 71] then 1
 else if u.take 7 == [80, 79, 76, 89, 71, 79, 78] then 2
 else if u.take 10 == [77, 85, 76, 84, 73, 80, 79, 73, 78, 84] then 3
 else if u.take 15 == [77, 85, 76, 84, 73, 76, 73, 78, 69, 83, 84, 82, 73, 78, 71] then 4
 else if u.take 12 == [77, 85, 76, 84, 73, 80, 79, 76, 89, 71, 79, 78] then 5
 else if u.take 18 == [71, 69, 79, 77, 69, 84, 82, 89, 67, 79, 76, 76, 69, 67, 84, 73, 79, 78] then 6
 else 7
def txColl : List UInt8 := [71, 69, 79, 77, 69, 84, 82, 89, 67, 79, 76, 76, 69, 67, 84, 73, 79, 78, 32, 69, 77, 80, 84, 89]
mutual
def GR : List UInt8 -> Geo -> Prop
 | l, .point p => kindOf (trim l) = 0 /\ ∃ t, brk ((trim l).drop 5) = some t /\ PtR t p
 | l, .line ps => kindOf (trim l) = 1 /\ Whole txLine 10 LineR (trim l) ps
 | l, .poly rss => kindOf (trim l) = 2 /\ Whole txPoly 7 (PolyR false) (trim l) rss
 | l, .mpoint ps => kindOf (trim l) = 3 /\ Whole txMPoint 10 MPointR (trim l) ps
 | l, .mline rss => kindOf (trim l) = 4 /\ Whole txMLine 15 (PolyR false) (trim l) rss
 | l, .mpoly xs => kindOf (trim l) = 5 /\ Whole txMPoly 12 MPolyR (trim l) xs
 | l, .coll gs => kindOf (trim l) = 6 /\ (((low128 (trim l) = true -> foldEq (trim l) txColl = true) /\ gs = []) \/
   ((low128 (trim l) = true -> foldEq (trim l) txColl = false) /\ (trim l).length ≠ 18 /\ ∃ r, brk ((trim l).drop 18) = some r /\ GRs (members r) gs))
def GRs : List (List UInt8) -> List Geo -> Prop
 | [], [] => True
 | l :: ls, g :: gs => GR l g /\ GRs ls gs
 | _, _ => False
end
inductive GB : List UInt8 -> Prop
 | kind (l : List UInt8) : kindOf (trim l) = 7 -> GB l
 | point (l : List UInt8) : kindOf (trim l) = 0 -> (brk ((trim l).drop 5) = none \/ ∃ t, brk ((trim l).drop 5) = some t /\ ptP t = none) -> GB l
 | line (l : List UInt8) : kindOf (trim l) = 1 -> WholeBad txLine 10 LineF (trim l) -> GB l
 | poly (l : List UInt8) : kindOf (trim l) = 2 -> WholeBad txPoly 7 (PolyF false) (trim l) -> GB l
 | mpoint (l : List UInt8) : kindOf (trim l) = 3 -> WholeBad txMPoint 10 MPointF (trim l) -> GB l
 | mline (l : List UInt8) : kindOf (trim l) = 4 -> WholeBad txMLine 15 (PolyF false) (trim l) -> GB l
 | mpoly (l : List UInt8) : kindOf (trim l) = 5 -> WholeBad txMPoly 12 MPolyF (trim l) -> GB l
 | coll (l : List UInt8) : kindOf (trim l) = 6 -> (low128 (trim l) = true -> foldEq (trim l) txColl = false) -> ((trim l).length = 18 \/ brk ((trim l).drop 18) = none) -> GB l
 | member (l : List UInt8) (r m : List UInt8) : kindOf (trim l) = 6 -> (low128 (trim l) = true -> foldEq (trim l) txColl = false) -> brk ((trim l).drop 18) = some r -> m ∈ members r -> GB m -> GB l
theorem GRs.snoc {m : List UInt8} {g : Geo} (h : GR m g) : ∀ (ls : List (List UInt8)) (gs : List Geo), GRs ls gs -> GRs (ls ++ [m]) (gs ++ [g])
 | [], [], _ => ⟨h, trivial⟩
 | _ :: ls, _ :: gs, ⟨h1, h2⟩ => ⟨h1, GRs.snoc h ls gs h2⟩
theorem GRs.len : ∀ (ls : List (List UInt8)) (gs : List Geo), GRs ls gs -> ls.length = gs.length
 | [], [], _ => rfl
 | _ :: ls, _ :: gs, ⟨_, h⟩ => by rw [List.length_cons, List.length_cons, GRs.len ls gs h]
def GPost (l : List UInt8) (w : World) (e : Ending) (w' : World) : Prop :=
 Below w.heap.size w w' /\ ((∃ v g, e = .returned (.tuple #[v, .nilIface]) /\ GRep w.heap.size w' g v /\ GR l g) \/ (∃ t u, e = .returned (.tuple #[.nilIface, .iface t u]) /\ GB l))
theorem gc_len (l : List UInt8) : ∀ (r : List UInt8) (k : Nat) (d : Int) (st : Nat), ∀ m ∈ gc l r k d st, m.length <= l.length := by
 intro r
 induction r with
 | nil => intro k d st m hm; simp [gc] at hm; subst hm; exact Nat.le_trans (trim_len _) (by simp)
 | cons c r ih =>
  intro k d st m hm
  unfold gc at hm
  split at hm
  ·exact ih _ _ _ m hm
  ·split at hm
   ·exact ih _ _ _ m hm
   ·split at hm
    ·split at hm
     ·rcases List.mem_cons.1 hm with h | h
      ·subst h; exact Nat.le_trans (trim_len _) (by simp; omega)
      ·exact ih _ _ _ m h
     ·exact ih _ _ _ m hm
    ·exact ih _ _ _ m hm
theorem members_len {r m : List UInt8} (h : m ∈ members r) : m.length <= r.length := gc_len r r 0 0 0 m h
theorem gc_count (l : List UInt8) : ∀ (r : List UInt8) (k : Nat) (d : Int) (st : Nat), (gc l r k d st).length <= r.length + 1 := by
 intro r
 induction r with
 | nil => intro k d st; simp [gc]
 | cons c r ih =>
  intro k d st
  unfold gc
  rw [List.length_cons]
  split
  ·have := ih (k + 1) (d + 1) st; omega
  ·split
   ·have := ih (k + 1) (d - 1) st; omega
   ·split
    ·split
     ·rw [List.length_cons]; have := ih (k + 1) d (k + 1); omega
     ·have := ih (k + 1) d st; omega
    ·have := ih (k + 1) d st; omega
theorem GRep.iface {B : Nat} {w : World} : ∀ {g : Geo} {v : Value}, GRep B w g v -> ∃ t u, v = .iface t u
 | .point _, _, h => ⟨_, _, h⟩
 | .line _, _, ⟨u, h, _⟩ => ⟨_, u, h⟩
 | .poly _, _, ⟨u, h, _⟩ => ⟨_, u, h⟩
 | .mpoint _, _, ⟨u, h, _⟩ => ⟨_, u, h⟩
 | .mline _, _, ⟨u, h, _⟩ => ⟨_, u, h⟩
 | .mpoly _, _, ⟨u, h, _⟩ => ⟨_, u, h⟩
 | .coll _, _, ⟨u, _, h, _⟩ => ⟨_, u, h⟩
theorem info33 : (Tryz.prog.info? 33).map (fun i => (i.zero, i.size, i.bytes)) = some (some .nilIface, 1, 16) := by kernel_rfl
def CollPost (l : List UInt8) (w : World) (e : Ending) (w' : World) : Prop :=
 Below w.heap.size w w' /\ ((∃ v gs, e = .returned (.tuple #[v, .nilIface]) /\ (∃ vs, w'.ownsRow w.heap.size 33 1 v gs.length vs /\ GReps w.heap.size w' gs vs) /\
   (((low128 l = true -> foldEq l txColl = true) /\ gs = []) \/ ((low128 l = true -> foldEq l txColl = false) /\ l.length ≠ 18 /\ ∃ r, brk (l.drop 18) = some r /\ GRs (members r) gs))) \/
  (∃ v t u, e = .returned (.tuple #[v, .iface t u]) /\ (low128 l = true -> foldEq l txColl = false) /\ ((l.length = 18 \/ brk (l.drop 18) = none) \/ ∃ r m, brk (l.drop 18) = some r /\ m ∈ members r /\ GB m)))
def CollRel (w w3 : World) (ms : List (List UInt8)) (vr : Value) (n : Nat) (v6 v32 : Value) (wr : World) : Prop :=
 ∃ (k : Nat) (gs : List Geo) (vs : List Value), n = ms.length - k /\ k <= ms.length /\ v32 = .int .i64 k /\ v6 = .slice (some ⟨w3.heap.size, 0, none⟩) k ms.length /\ wr.ownsRow w3.heap.size 33 1 v6 k vs /\ gs.length = k /\ GReps (w3.heap.size + 1) wr gs vs /\ GRs (ms.take k) gs /\ Below w3.heap.size w3 wr /\ Row wr 9 1 vr ms.length (strs ms)
theorem uColl_any (s : ByteArray) (w : World) (hs : s.size <= 1099511627776) (h18 : 18 <= s.size) (hre : RE w)
  (hU : ∀ (p : ByteArray) (w1 : World), p.size < s.size -> RE w1 -> Calls Tryz.prog 10 #[.string p] w1 (GPost (ls p) w1)) :
  Calls Tryz.prog 29 #[.string s] w (CollPost (ls s) w) := by
 have hef := EqualFold_any s { data := #[71, 69, 79, 77, 69, 84, 82, 89, 67, 79, 76, 76, 69, 67, 84, 73, 79, 78, 32, 69, 77, 80, 84, 89] } w hs (by decide) (by decide) hre.fold
 have H := Lib.hid (And.intro hef (And.intro hre hU))
 clear hef hre hU
 obtain ⟨j0, hj, hy0, hy1, hy2⟩ := info_parts info33
 have hx : ls (s.extract 18 s.size) = (ls s).drop 18 := by rw [ls_extract, List.take_of_length_le (by simp [ls_length])]
 have HX := Lib.hid hx
 clear hx
 go_enter Tryz.func29, Tryz.ntmps29
 go_wp2_with fail
 refine H.out.1.mono ?_
 rintro e w1 ⟨hb1, b, rfl, hfe⟩
 have HF : Hid (Below w.heap.size w w1 /\ (low128 (ls s) = true -> foldEq (ls s) txColl = b)) := ⟨hb1, fun h => (hfe h).symm⟩
 clear hb1 hfe
 cases b
 ·by_cases he18 : s.size = 18
  ·have b18 : ((s.size : Int) == 18) = true := by rw [beq_iff_eq]; omega
   obtain ⟨t, v, hN⟩ := (H.out.2.1.below HF.out.1).env.notWKT
   have h18' := Lib.hid he18
   clear he18 h18
   go_wp2_with fail
   go_quiet (fail)
   go_wp2_with fail
   go_returns
   exact ⟨HF.out.1.trans (below_drewN w1 _ |>.mono HF.out.1.size), .inr ⟨_, t, v, rfl, HF.out.2, .inl (.inl (by rw [ls_length]; exact h18'.out))⟩⟩
  ·have b18 : ((s.size : Int) == 18) = false := by rw [beq_eq_false_iff_ne]; omega
   have hsg := splitColl_any (s.extract 18 s.size) w1 (by rw [ByteArray.size_extract]; omega) (H.out.2.1.below HF.out.1).env
   have HG := Lib.hid hsg
   clear hsg
   go_wp2_with fail
   refine HG.out.mono ?_
   rintro e w3 ⟨hb3, ⟨r, vr, hr, rfl, hrow⟩ | ⟨hr, t, v, rfl⟩⟩
   ·have hrl := brk_len hr
    rw [HX.out] at hr hrl
    rw [List.length_drop, ls_length] at hrl
    obtain ⟨ms, hms⟩ : ∃ ms, ms = members r := ⟨_, rfl⟩
    rw [<- hms] at hrow
    have hml : ∀ m ∈ ms, m.length < s.size := by intro m hm; rw [hms] at hm; have := members_len hm; omega
    have hmn : ms.length <= 1099511627777 := by rw [hms]; have := gc_count r r 0 0 0; unfold members; omega
    obtain ⟨rA, rc, rfl⟩ := Row.shape hrow
    have HB : Hid (Below w.heap.size w w3 /\ brk ((ls s).drop 18) = some r /\ Row w3 9 1 (.slice rA ms.length rc) ms.length (strs ms) /\ ms = members r /\ (∀ m ∈ ms, m.length < s.size)) := ⟨HF.out.1.trans (hb3.mono HF.out.1.size), hr, hrow, hms, hml⟩
    have hsz := HB.out.1.size
    clear hb3 hr hrow hms hml hrl
    go_wp2_with (at_make; refine wpList_make_own _ rfl _ _ 60 rfl w3.heap.size 33 j0 .nilIface 1 Tryz.underlying60 hj hy0 hy1 _ _ _ ms.length rfl rfl rfl (by rw [hy2]; omega) (by unfold maxLen; omega) (Nat.le_refl _) ?_)
    intro w4 hown hgr
    have hg4 := below_grown hgr
    have HS : Hid (CollRel w w3 ms (.slice rA ms.length rc) ms.length (.slice (some ⟨w3.heap.size, 0, none⟩) 0 ms.length) (.int .i64 0) w4) :=
     ⟨0, [], [], rfl, Nat.zero_le _, rfl, rfl, hown, rfl, trivial, by rw [List.take_zero]; trivial, hg4, Row.below HB.out.2.2.1 hg4⟩
    clear hown hgr hg4
    go_wp2_with fail
    go_loopg [6, 32] ms.length (fun n v6 v32 wr => CollRel w w3 ms (.slice rA ms.length rc) n v6 v32 wr)
    case atStart => exact HS.out
    case round =>
     clear HS
     obtain ⟨k, gs, vs, hgk, hk, rfl, rfl, hown, hgl, hreps, hgrs, hbel, hrow⟩ := hrel
     by_cases hlt : k < ms.length
     ·obtain ⟨g0, c0, hv, hcap⟩ := Row.pos hrow (by omega)
      injection hv with e1 e2 e3
      subst e1
      clear e2 e3
      obtain ⟨m, hm⟩ : ∃ m, ms[k]? = some m := ⟨ms[k], List.getElem?_eq_getElem hlt⟩
      have hcell := Row.cell hrow k (u := .string (bs m)) (by unfold strs; rw [List.getElem?_map, hm]; rfl)
      have hmm : m ∈ ms := List.mem_of_getElem? hm
      have hbw : Below w.heap.size w wr := HB.out.1.trans (hbel.mono hsz)
      have hcall := H.out.2.2 (bs m) wr (by rw [bs_size]; exact HB.out.2.2.2.2 m hmm) (H.out.2.1.below hbw)
      rw [ls_bs] at hcall
      have HC := Lib.hid (And.intro hcall (And.intro hown (And.intro hreps (And.intro hgrs (And.intro hbel (And.intro hrow (And.intro hm (And.intro hmm hbw))))))))
      clear hcall hown hreps hgrs hbel hrow hm hmm hbw
      go_wp2_with fail
      refine HC.out.1.mono ?_
      rintro e w5 ⟨hb5, ⟨v, g, rfl, hrep, hgr⟩ | ⟨t, u, rfl, hbad⟩⟩
      ·obtain ⟨t, u, rfl⟩ := hrep.iface
       obtain ⟨-, hown, hreps, hgrs, hbel, hrow, hm, hmm, hbw⟩ := HC.out
       have hown5 := Row.below hown hb5
       have hg5 : w3.heap.size + 1 <= wr.heap.size := (hown.lt _ rfl).2
       have HG5 := Lib.hid (And.intro hb5 (And.intro hrep hgr))
       have hsz5 := hb5.size
       clear hb5 hrep hgr hown hreps hgrs hbel hrow hm hmm hbw
       go_wp2_with (at_builtin; refine wpList_append_fits _ rfl (.tmp 44) (.tmp 46) 60 rfl w3.heap.size 33 j0 1 Tryz.underlying60 hj hy1 w3.heap.size k ms.length vs rfl (hown5.alloc _) ⟨w5.heap.size, 0, none⟩ 1 1 [.iface t u] rfl rfl ?c1 ?c2 ?c3 ?_)
       case c1 => exact one_new (by simp)
       case c2 => exact one_cell rfl
       case c3 => omega
       intro w6 hown6 hgrow6
       have HE : Hid (CollRel w w3 ms (.slice (some ⟨g0, 0, none⟩) ms.length rc) (ms.length - (k + 1)) (.slice (some ⟨w3.heap.size, 0, none⟩) (k + 1) ms.length) (.int .i64 ((k : Int) + 1)) w6) := by
        obtain ⟨-, hown, hreps, hgrs, hbel, hrow, hm, hmm, hbw⟩ := HC.out
        obtain ⟨hb5, hrep, hgr⟩ := HG5.out
        have k6 : Keep w3.heap.size (fun t => t = 33) _ w6 := Keep.grown (S := fun t => t = 33) (hown5.alloc _) hgrow6 rfl
        have k5 : Keep w3.heap.size (fun t => t = 33) wr w6 := (Keep.ofBelow hb5).trans ((Keep.alloc _).trans k6)
        have ha5 : Above (w3.heap.size + 1) w5 w6 := by
         intro x hx1 hx2
         rw [hgrow6.block x (by simp; omega) (by intro h; injection h; omega)]
         exact ((Below.refl _ w5).alloc (Nat.le_refl _) _).block x hx2
        have ha : Above (w3.heap.size + 1) wr w6 := fun x hx1 hx2 => (ha5 x hx1 (by omega)).trans (hb5.block x hx2)
        refine ⟨k + 1, gs ++ [g], vs ++ [.iface t u], rfl, by omega, by go_num, rfl, hown6, by simp [hgl], GReps.snoc (GRep.above ha5 g _ (GRep.mono hg5 g _ hrep)) gs vs (GReps.above ha gs vs hreps), ?_, hbel.trans (k5.below' hbel.size), Row.kept hrow k5 (.inr (by decide))⟩
        obtain ⟨hlt', he⟩ := List.getElem?_eq_some_iff.1 hm
        rw [List.take_succ_eq_append_getElem hlt', he]
        exact GRs.snoc hgr _ gs hgrs
       clear hown5 hown6 hgrow6
       go_wp2_with fail
       go_roundg (ms.length - (k + 1))
       case measure => omega
       case rel => exact HE.out
      ·have HD := Lib.hid (And.intro hb5 hbad)
       clear hb5 hbad
       go_wp2_with fail
       go_returns
       obtain ⟨-, hown, hreps, hgrs, hbel, hrow, hm, hmm, hbw⟩ := HC.out
       exact ⟨hbw.trans (HD.out.1.mono hbw.size), .inr ⟨_, t, u, rfl, HF.out.2, .inr ⟨r, m, HB.out.2.1, by rw [<- HB.out.2.2.2.1]; exact hmm, HD.out.2⟩⟩⟩
     ·have hkk : k = ms.length := by omega
      subst hkk
      have HE := Lib.hid (And.intro hown (And.intro hreps (And.intro hgrs hbel)))
      clear hown hreps hgrs hbel hrow
      go_wp2_with fail
      go_returns
      obtain ⟨hown, hreps, hgrs, hbel⟩ := HE.out
      refine ⟨HB.out.1.trans (hbel.mono hsz), .inl ⟨_, gs, rfl, ⟨vs, ?_, GReps.mono (by omega) gs vs hreps⟩, .inr ⟨HF.out.2, by rw [ls_length]; exact he18, r, HB.out.2.1, ?_⟩⟩⟩
      ·rw [hgl]; exact owns_mono hown hsz
      ·rw [List.take_length, HB.out.2.2.2.1] at hgrs; exact hgrs
   ·rw [HX.out] at hr
    have HB := Lib.hid (And.intro hb3 hr)
    clear hb3 hr
    go_wp2_with fail
    go_returns
    exact ⟨HF.out.1.trans (HB.out.1.mono HF.out.1.size), .inr ⟨_, t, v, rfl, HF.out.2, .inl (.inr HB.out.2)⟩⟩
 ·go_wp2_with fail
  go_returns
  exact ⟨below_alloc HF.out.1 _, .inl ⟨_, [], rfl, ⟨[], row_lit w1 w.heap.size 33 1 0 [] HF.out.1.size rfl (by unfold maxLen; omega), trivial⟩, .inl ⟨HF.out.2, rfl⟩⟩⟩
end Go.Proofs.YtdfolbmoohcblaaGreatDoor
