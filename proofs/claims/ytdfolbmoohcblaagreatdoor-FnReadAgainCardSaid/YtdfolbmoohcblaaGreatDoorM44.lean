/-
For FnReadAgain, part 44: W26 W27 W28 W29.
-/
import Derived.Test.YtdfolbmoohcblaaGreatDoorM43
import Derived.Laws.AppendOwnNone
set_option linter.all false
namespace Go.Proofs.YtdfolbmoohcblaaGreatDoor
set_option maxHeartbeats 8000000
set_option maxRecDepth 100000
open Go.RowKit
def nls (rss : List (List (Nat × Nat))) : Nat := (rss.map List.length).sum
mutual
def npt : Shp -> Nat
 | .mk _ rss ss => nls rss + npts ss
def npts : List Shp -> Nat
 | [] => 0
 | s :: ss => npt s + npts ss
end
theorem nls_next {rss : List (List (Nat × Nat))} {k : Nat} {ps : List (Nat × Nat)} (h : rss[k]? = some ps) : nls (rss.take (k + 1)) = nls (rss.take k) + ps.length := by
 rw [take_next h]; simp [nls]
theorem nls_take_le (rss : List (List (Nat × Nat))) (k : Nat) : nls (rss.take k) <= nls rss := by
 unfold nls
 conv => rhs; rw [<- List.take_append_drop k rss]
 rw [List.map_append, List.sum_append]; omega
theorem npts_append : ∀ a b : List Shp, npts (a ++ b) = npts a + npts b
 | [], b => by simp [npts]
 | s :: a, b => by
  show npt s + npts (a ++ b) = npt s + npts a + npts b
  rw [npts_append a b]; omega
theorem npts_next {ss : List Shp} {k : Nat} {s : Shp} (h : ss[k]? = some s) : npts (ss.take (k + 1)) = npts (ss.take k) + npt s := by
 rw [take_next h, npts_append]; simp [npts]
theorem npts_take_le (ss : List Shp) (k : Nat) : npts (ss.take k) <= npts ss := by
 conv => rhs; rw [<- List.take_append_drop k ss]
 rw [npts_append]; omega
theorem ap_row {ops : Array Oper} {rest : List Oper} {o : Oper} {a : Act} {Q : Exit -> Act -> World -> Prop} (hgd : o.guard = none) (s x : Operand)
  (ho : o.op = .call { callee := .builtin .append, args := #[s, x], argTypes := #[39, 39] })
  {B n m : Nat} {w : World} {v u : Value} {xs news : List Value} {ok : Nat -> Prop} (hown : w.ownsRow B 38 2 v n xs) (hs : a.eval s = v) (hx : a.eval x = u) (hu : RowK ok w 38 2 u m news) (h1 : ∀ y ∈ news, y.oneCell' = true)
  (hn : n + m <= big) (hB : B <= w.heap.size)
  (K : ∀ v' w', w'.ownsRow B 38 2 v' (n + m) (xs ++ news) -> w.grownBy w' v.ownBlock -> wpList Tryz.prog ops Q rest (a.put o.dst v') w') : wpList Tryz.prog ops Q (o :: rest) a w := by
 obtain ⟨i0, hi, hz0, hz1, hz2⟩ := info_parts info38
 have hbig : big = 1000000000000 := rfl
 rcases hu.1.2 with ⟨rfl, h0⟩ | ⟨g, cap, cur, rfl, -⟩
 ·subst h0
  have hnil : news = [] := List.length_eq_zero_iff.1 (by simpa using hu.1.1)
  subst hnil
  exact wpList_append_own_none hgd s x 39 ho B 38 i0 2 Tryz.underlying39 hi v n xs hs hown hx (by
   have := K v w (by simpa using hown) ⟨rfl, rfl, rfl, Nat.le_refl _, fun _ _ _ => rfl⟩
   exact this)
 ·exact wpList_append_own w hgd s x 39 ho B 38 i0 (.agg #[.float .f64 0, .float .f64 0]) 2 16 Tryz.underlying39 hi hz0 hz1 hz2 rfl (by decide) v n xs hs hown ⟨g, 0, none⟩ m cap news hx hu.1.1 (fun j y hj => hu.1.cells (g := g) rfl j y hj) h1 (by unfold maxLen; omega) (by omega) hB (fun v' w' h2 h3 _ => K v' w' h2 h3)
def PoPost (w : World) (s : Shp) (e : Ending) (w' : World) : Prop := ∃ v xs, e = .returned v /\ RowK (fun g => w.heap.size <= g) w' 38 2 v (npt s) xs /\ (∀ y ∈ xs, y.oneCell' = true) /\ Below w.heap.size w w'
def PoR (w : World) (b : Nat) (x y z : Value) (f : Nat -> Nat) (N : Nat) (n : Nat) (v3 vi : Value) (wr : World) : Prop :=
 ∃ (k : Nat) (xs : List Value), n = N - k /\ k <= N /\ vi = .int .i64 k /\ Hid (wr.ownsRow (b + 1) 38 2 v3 (f k) xs /\ (∀ y ∈ xs, y.oneCell' = true) /\ Below w.heap.size w wr /\ Bx wr b x y z /\ b + 1 <= wr.heap.size)
theorem flat_one (ps : List (Nat × Nat)) : ∀ y ∈ flat ps, y.oneCell' = true := by
 intro y hy
 unfold flat at hy
 obtain ⟨p, -, hp⟩ := List.mem_flatMap.1 hy
 simp at hp
 rcases hp with rfl | rfl <;> rfl
theorem po_grown {w w1 w' : World} {b : Nat} {x y z v : Value} {n : Nat} {xs : List Value} (hown : w1.ownsRow (b + 1) 38 2 v n xs) (hb : Below w.heap.size w w1) (hbx : Bx w1 b x y z) (hbb : w.heap.size = b) (hs : b + 1 <= w1.heap.size) (hg : w1.grownBy w' v.ownBlock) :
  Below w.heap.size w w' /\ Bx w' b x y z /\ b + 1 <= w'.heap.size := by
 have hne : ∀ j, j <= b -> v.ownBlock ≠ some j := by
  intro j hj e
  have := ownBlock_old hown j e
  omega
 refine ⟨hb.trans ⟨hg.os, hg.tape, hg.output, hg.size, fun j hj => hg.block j (by omega) (fun e => hne j (by omega) e.symm)⟩, (hg.block b (lt_of_heap hbx) (fun e => hne b (Nat.le_refl _) e.symm)).trans hbx, Nat.le_trans hs hg.size⟩
theorem points_step (ok : Nat -> Prop) (w : World) (v : Value) (k0 : Nat) (rss : List (List (Nat × Nat))) (ss : List Shp)
  (ih : ∀ (s : Shp) (v : Value) (w : World), s ∈ ss -> SRep ok w s v -> npt s <= big -> Calls Tryz.prog 12 #[v] w (PoPost w s))
  (h : SRep ok w (.mk k0 rss ss) v) (hn : npt (.mk k0 rss ss) <= big) :
  Calls Tryz.prog 12 #[v] w (PoPost w (.mk k0 rss ss)) := by
 obtain ⟨l1, p1, cs1, rfl, ⟨vs1, hl1, ha1⟩, hp1, hs1⟩ := h
 obtain ⟨A1, c1, rfl⟩ := Row.shape hl1.1
 obtain ⟨B1, d1, rfl⟩ := Row.shape hp1.1
 have hn' : nls rss + npts ss <= big := hn
 have H := Lib.hid (And.intro hl1 (And.intro ha1 (And.intro hp1 (And.intro hs1 hn'))))
 have IH := Lib.hid ih
 clear hl1 ha1 hp1 hs1 ih hn hn'
 obtain ⟨b, hb⟩ : ∃ b, w.heap.size = b := ⟨_, rfl⟩
 obtain ⟨b2, hb2⟩ : ∃ b2, b + 1 = b2 := ⟨_, rfl⟩
 obtain ⟨wx, hwx⟩ : ∃ wx, (w.alloc (Obj.cells #[.int .i64 (k0 : Int), .slice A1 rss.length c1, .slice B1 ss.length d1] 26)).alloc (Obj.cells #[] 38) = wx := ⟨_, rfl⟩
 have hx : Hid (wx.ownsRow (b + 1) 38 2 (.slice (some ⟨b2, 0, none⟩) 0 0) 0 [] /\ Below w.heap.size w wx /\ Bx wx b (.int .i64 (k0 : Int)) (.slice A1 rss.length c1) (.slice B1 ss.length d1) /\ b + 1 <= wx.heap.size) := by
  rw [<- hwx]
  refine ⟨row_lit_at _ _ 38 2 0 _ [] (by rw [alloc_size]; omega) (by rw [alloc_size]; omega) rfl (by unfold maxLen; omega), below_alloc (below_alloc (Below.refl _ _) _) _, ?_, by rw [alloc_size, alloc_size]; omega⟩
  rw [<- hb]
  exact (Below.heap_alloc _ _ _ (by rw [alloc_size]; omega)).trans (heap_alloc_new w _)
 obtain ⟨x1, x2, x3⟩ := three_cells hx.out.2.2.1
 go_enter Tryz.func12, Tryz.ntmps12
 go_wp2_with fail
 go_loopg [3, 12] rss.length (fun n v3 vi wr => PoR w b (.int .i64 (k0 : Int)) (.slice A1 rss.length c1) (.slice B1 ss.length d1) (fun k => nls (rss.take k)) rss.length n v3 vi wr)
 case atStart => exact ⟨0, [], by omega, Nat.zero_le _, rfl, hx.out.1, (fun y hy => by cases hy), hx.out.2⟩
 case round =>
  obtain ⟨k, xs, hgk, hk, rfl, hws⟩ := hrel
  obtain ⟨e1, e2, e3⟩ := three_cells hws.out.2.2.2.1
  clear x1 x2 x3
  have hws0 := hws.out
  dsimp only at hws0
  have hws := Lib.hid hws0
  clear hws0
  obtain ⟨oA, oc, rfl⟩ := Row.shape hws.out.1
  by_cases hkl : k = rss.length
  ·subst hkl
   go_wp2_with fail
   go_loopg [3, 23] ss.length (fun n v3 vi wr => PoR w b (.int .i64 (k0 : Int)) (.slice A1 rss.length c1) (.slice B1 ss.length d1) (fun k => nls rss + npts (ss.take k)) ss.length n v3 vi wr)
   case atStart =>
    have h0 := hws.out
    simp only [List.take_length] at h0
    exact ⟨0, xs, by omega, Nat.zero_le _, rfl, by show _ /\ _; simpa [npts] using h0⟩
   case round =>
    clear e1 e2 e3 hws hk hgk
    obtain ⟨k, xs, hgk, hk, rfl, hws⟩ := hrel
    obtain ⟨e1, e2, e3⟩ := three_cells hws.out.2.2.2.1
    have hws0 := hws.out
    dsimp only at hws0
    have hws := Lib.hid hws0
    clear hws0
    obtain ⟨oA, oc, rfl⟩ := Row.shape hws.out.1
    by_cases hkl : k = ss.length
    ·subst hkl
     have HWS : Hid (RowK (fun g => w.heap.size <= g) wr 38 2 (.slice oA (npt (.mk k0 rss ss)) oc) (npt (.mk k0 rss ss)) xs /\ (∀ y ∈ xs, y.oneCell' = true) /\ Below w.heap.size w wr) := by
      have h1 := hws.out
      rw [List.take_length] at h1
      exact ⟨(RowK.of h1.1).mono fun g hg _ => by omega, h1.2.1, h1.2.2.1⟩
     have hnn : nls rss + npts (ss.take ss.length) = npt (.mk k0 rss ss) := by rw [List.take_length]; rfl
     rw [hnn]
     clear hws hnn
     go_wp2_with fail
     go_returns
     exact ⟨_, xs, rfl, HWS.out.1, HWS.out.2.1, HWS.out.2.2⟩
    ·obtain ⟨m, hp⟩ : ∃ m, ss[k]? = some m := ⟨_, List.getElem?_eq_getElem (by omega)⟩
     obtain ⟨g, c', hA, -⟩ := Row.pos H.out.2.2.1.1 (by omega)
     injection hA with hA1 hA2 hA3
     subst hA1
     subst hA3
     obtain ⟨xa, xb, xc, y1, y2, y3, hr1⟩ := SReps.get H.out.2.2.2.1 hp
     obtain ⟨sk, sl, sp, hag⟩ := hr1.agg
     obtain ⟨rfl, rfl, rfl⟩ := agg3_inj hag
     have f1 := (H.out.2.2.1.kept (Kept.below hws.out.2.2.1)).cell (k * 3) y1
     have f2 := (H.out.2.2.1.kept (Kept.below hws.out.2.2.1)).cell (k * 3 + 1) y2
     have f3 := (H.out.2.2.1.kept (Kept.below hws.out.2.2.1)).cell (k * 3 + 2) y3
     have hglt : g < wr.heap.size := World.block_lt_of_cell? _ _ f1
     have hnx := npts_next hp
     have hle := npts_take_le ss (k + 1)
     have HP := Lib.hid (And.intro (SRep.kept (Kept.below hws.out.2.2.1) _ _ hr1) (And.intro (List.mem_of_getElem? hp) (And.intro hnx hle)))
     have hmx := row_max H.out.2.2.1.1
     have hk0 : (0 : Int) <= (k : Int) := by omega
     have hk1 : (k : Int) < (ss.length : Int) := by omega
     have hk3 : (k : Int) + 1 <= 9223372036854775807 := by omega
     clear hp y1 y2 y3 hr1 hag hnx hle hmx hb2 hwx
     go_wp2_with fail
     obtain ⟨wb, hwb⟩ : ∃ wb, wr.alloc (Obj.cells #[.int .i64 sk, .slice sl.1 sl.2.1 sl.2.2, .slice sp.1 sp.2.1 sp.2.2] 26) = wb := ⟨_, rfl⟩
     have hbb : Below wr.heap.size wr wb := by rw [<- hwb]; exact (Below.refl _ _).alloc (Nat.le_refl _) _
     rw [hwb]
     refine (IH.out m _ wb HP.out.2.1 (SRep.kept (Kept.below hbb) _ _ HP.out.1) (by have h1 := HP.out.2.2.1; have h2 := HP.out.2.2.2; have h3 := H.out.2.2.2.2; omega)).mono ?_
     intro e w1 hpo
     obtain ⟨u, us, rfl, hu, hone, hb1⟩ := hpo
     obtain ⟨uA, uc, rfl⟩ := Row.shape hu.1
     have hb1 : Below wr.heap.size wr w1 := hbb.trans (hb1.mono hbb.size)
     have hown1 := Row.below hws.out.1 hb1
     have hB : Hid (Below w.heap.size w w1 /\ Bx w1 b (.int .i64 (k0 : Int)) (.slice A1 rss.length c1) (.slice (some ⟨g, 0, none⟩) ss.length d1) /\ b + 1 <= w1.heap.size) :=
      ⟨hws.out.2.2.1.trans (hb1.mono hws.out.2.2.1.size), hws.out.2.2.2.1.below hb1, Nat.le_trans hws.out.2.2.2.2 hb1.size⟩
     have HU := Lib.hid (And.intro hown1 (And.intro hu hone))
     clear hb1 hown1 hu hone hwb hbb f1 f2 f3 e1 e2 e3
     go_wp2_with (at_builtin; refine ap_row rfl (.tmp 27) (.tmp 29) rfl HU.out.1 rfl rfl HU.out.2.1 HU.out.2.2 (by have h1 := HP.out.2.2.1; have h2 := HP.out.2.2.2; have h3 := H.out.2.2.2.2; omega) hB.out.2.2 ?_)
     intro v' w' hown' hgr
     obtain ⟨vA, vc, rfl⟩ := Row.shape hown'
     have HW : Hid (w'.ownsRow (b + 1) 38 2 (.slice vA (nls rss + npts (ss.take k) + npt m) vc) (nls rss + npts (ss.take k) + npt m) (xs ++ us) /\ (∀ y ∈ xs ++ us, y.oneCell' = true) /\ Below w.heap.size w w' /\ Bx w' b (.int .i64 (k0 : Int)) (.slice A1 rss.length c1) (.slice (some ⟨g, 0, none⟩) ss.length d1) /\ b + 1 <= w'.heap.size) := by
      refine ⟨hown', ?_, po_grown HU.out.1 hB.out.1 hB.out.2.1 hb hB.out.2.2 hgr⟩
      intro y hy
      rcases List.mem_append.1 hy with hy | hy
      ·exact hws.out.2.1 y hy
      ·exact HU.out.2.2 y hy
     clear hown' hgr
     go_wp2_with fail
     go_roundg (gk - 1)
     case rel => exact ⟨k + 1, xs ++ us, by omega, by omega, by go_num, by dsimp only; rw [HP.out.2.2.1, <- Nat.add_assoc]; exact HW⟩
     case measure => omega
  ·obtain ⟨ps, hp⟩ : ∃ ps, rss[k]? = some ps := ⟨_, List.getElem?_eq_getElem (by omega)⟩
   obtain ⟨g, c', hA, -⟩ := Row.pos H.out.1.1 (by omega)
   injection hA with hA1 hA2 hA3
   subst hA1
   subst hA3
   obtain ⟨y1, hy1, hp1⟩ := All2.get' H.out.2.1 hp
   obtain ⟨yA, yc, rfl⟩ := Row.shape hp1.1
   have f1 := (H.out.1.kept (Kept.below hws.out.2.2.1)).cell k hy1
   have hnx := nls_next hp
   have hle := nls_take_le rss (k + 1)
   have HP := Lib.hid (And.intro (hp1.kept (Kept.below hws.out.2.2.1)) (And.intro hnx hle))
   have hk0 : (0 : Int) <= (k : Int) := by omega
   have hk1 : (k : Int) < (rss.length : Int) := by omega
   have hmx := row_max H.out.1.1
   have hk3 : (k : Int) + 1 <= 9223372036854775807 := by omega
   clear hp hy1 hp1 hnx hle hb2 hwx hmx
   go_wp2_with (at_builtin; refine ap_row rfl (.tmp 16) (.tmp 17) rfl hws.out.1 rfl rfl HP.out.1 (flat_one ps) (by have h1 := HP.out.2.1; have h2 := HP.out.2.2; have h3 := H.out.2.2.2.2; omega) hws.out.2.2.2.2 ?_)
   intro v' w' hown' hgr
   obtain ⟨vA, vc, rfl⟩ := Row.shape hown'
   have HW : Hid (w'.ownsRow (b + 1) 38 2 (.slice vA (nls (rss.take k) + ps.length) vc) (nls (rss.take k) + ps.length) (xs ++ flat ps) /\ (∀ y ∈ xs ++ flat ps, y.oneCell' = true) /\ Below w.heap.size w w' /\ Bx w' b (.int .i64 (k0 : Int)) (.slice (some ⟨g, 0, none⟩) rss.length c1) (.slice B1 ss.length d1) /\ b + 1 <= w'.heap.size) := by
    refine ⟨hown', ?_, po_grown hws.out.1 hws.out.2.2.1 hws.out.2.2.2.1 hb hws.out.2.2.2.2 hgr⟩
    intro y hy
    rcases List.mem_append.1 hy with hy | hy
    ·exact hws.out.2.1 y hy
    ·exact flat_one ps y hy
   clear hown' hgr e1 e2 e3 f1
   go_wp2_with fail
   go_roundg (gk - 1)
   case rel => exact ⟨k + 1, xs ++ flat ps, by omega, by omega, by go_num, by dsimp only; rw [HP.out.2.1]; exact HW⟩
   case measure => omega
theorem points_any (ok : Nat -> Prop) : ∀ (s : Shp) (v : Value) (w : World), SRep ok w s v -> npt s <= big -> Calls Tryz.prog 12 #[v] w (PoPost w s)
 | .mk k rss ss, v, w, h, hn => points_step ok w v k rss ss (fun s v w _hm h hn => points_any ok s v w h hn) h hn
termination_by s => SizeOf.sizeOf s
decreasing_by
 have := List.sizeOf_lt_of_mem _hm
 simp
 omega
theorem Write_any (ok : Nat -> Prop) (g : Geo) (v : Value) (w : World) (h : SRep ok w (shS g) v) (hs : GSm g) (hv : GV g) (hl : (gT g).length <= 100000000000000) (hfo : Fo w) : Calls Tryz.prog 4 #[v] w (NumPost (gT g) w) := by
 obtain ⟨k, sl, sp, rfl⟩ := h.agg
 have H := Lib.hid (And.intro h (And.intro hs (And.intro hv (And.intro hl hfo))))
 clear h hs hv hl hfo
 obtain ⟨wx, hwx⟩ : ∃ wx, w.alloc (Obj.cells #[.int .i64 k, .slice sl.1 sl.2.1 sl.2.2, .slice sp.1 sp.2.1 sp.2.2] 26) = wx := ⟨_, rfl⟩
 have hb : Below w.heap.size w wx := by rw [<- hwx]; exact (Below.refl _ _).alloc (Nat.le_refl _) _
 obtain ⟨x1, x2, x3⟩ := three_cells (w := wx) (by rw [<- hwx]; exact heap_alloc_new w _)
 go_enter Tryz.func4, Tryz.ntmps4
 go_wp2_with fail
 refine (geom_any ok g _ wx (SRep.kept (Kept.below hb) _ _ H.out.1) H.out.2.1).mono ?_
 intro e w2 hgm
 obtain ⟨u, rfl, hu, hb2⟩ := hgm
 obtain ⟨tu, uu, rfl⟩ := (GRepK.toG _ _ hu).iface
 have HU := Lib.hid (And.intro hu (hb.trans (hb2.mono hb.size)))
 clear hu hb2 x1 x2 x3 hwx hb
 go_wp2_with fail
 refine (MarshalString_any 0 w2 g _ (H.out.2.2.2.2.below HU.out.2) (GRepK.toG _ _ HU.out.1) H.out.2.2.1 H.out.2.2.2.1).mono ?_
 rintro e w3 ⟨rfl, hb3⟩
 have HB := Lib.hid (HU.out.2.trans (hb3.mono HU.out.2.size))
 clear hb3
 go_wp2_with fail
 go_returns
 exact ⟨rfl, HB.out⟩
theorem line_any (w : World) : Calls Tryz.prog 5 #[] w (ShPost w (shS (.line [(4607182418800017408, 4611686018427387904), (4613937818241073152, 4616189618054758400)]))) := by
 obtain ⟨R, hR⟩ : ∃ R, w.heap.size = R := ⟨_, rfl⟩
 go_enter Tryz.func5, Tryz.ntmps5
 go_wp2_with fail
 subst hR
 obtain ⟨w1, hw1⟩ : ∃ w1, w.alloc (Obj.cells #[.int .i64 2, .slice (some ⟨w.heap.size + 1 + 1, 0, none⟩) 1 1, .slice none 0 0] 26) = w1 := ⟨_, rfl⟩
 have z1 : w1.heap.size = w.heap.size + 1 := by rw [<- hw1]; exact alloc_size _ _
 have b1 : Below w.heap.size w w1 := by rw [<- hw1]; exact (Below.refl _ _).alloc (Nat.le_refl _) _
 have k1 : w1.heap[w.heap.size]? = some (.cells #[.int .i64 2, .slice (some ⟨w.heap.size + 1 + 1, 0, none⟩) 1 1, .slice none 0 0] 26 (0, 0)) := by rw [<- hw1]; exact heap_alloc_new w _
 rw [hw1]
 obtain ⟨w2, hw2⟩ : ∃ w2, w1.alloc (Obj.cells #[.float .f64 4607182418800017408, .float .f64 4611686018427387904, .float .f64 4613937818241073152, .float .f64 4616189618054758400] 38) = w2 := ⟨_, rfl⟩
 have z2 : w2.heap.size = w.heap.size + 2 := by rw [<- hw2, alloc_size, z1]
 have b2 : Below w1.heap.size w1 w2 := by rw [<- hw2]; exact (Below.refl _ _).alloc (Nat.le_refl _) _
 have r2 : w2.ownsRow 0 38 2 (.slice (some ⟨w.heap.size + 1, 0, none⟩) 2 2) 2 [.float .f64 4607182418800017408, .float .f64 4611686018427387904, .float .f64 4613937818241073152, .float .f64 4616189618054758400] := by
  rw [<- hw2]; exact row_lit_at w1 0 38 2 2 _ [.float .f64 4607182418800017408, .float .f64 4611686018427387904, .float .f64 4613937818241073152, .float .f64 4616189618054758400] (by omega) (Nat.zero_le _) rfl (by unfold maxLen; omega)
 rw [hw2]
 obtain ⟨w3, hw3⟩ : ∃ w3, w2.alloc (Obj.cells #[.slice (some ⟨w.heap.size + 1, 0, none⟩) 2 2] 39) = w3 := ⟨_, rfl⟩
 have b3 : Below w2.heap.size w2 w3 := by rw [<- hw3]; exact (Below.refl _ _).alloc (Nat.le_refl _) _
 have r3 : w3.ownsRow 0 39 1 (.slice (some ⟨w.heap.size + 1 + 1, 0, none⟩) 1 1) 1 [.slice (some ⟨w.heap.size + 1, 0, none⟩) 2 2] := by
  rw [<- hw3]; exact row_lit_at w2 0 39 1 1 _ [.slice (some ⟨w.heap.size + 1, 0, none⟩) 2 2] (by omega) (Nat.zero_le _) rfl (by unfold maxLen; omega)
 rw [hw3]
 have k3 : w3.heap[w.heap.size]? = some (.cells #[.int .i64 2, .slice (some ⟨w.heap.size + 1 + 1, 0, none⟩) 1 1, .slice none 0 0] 26 (0, 0)) := by
  rw [b3.block _ (by omega), b2.block _ (by omega)]; exact k1
 obtain ⟨q0, q1, q2⟩ := three_cells k3
 refine bodyPost_ret (v := .agg #[.int .i64 2, .slice (some ⟨w.heap.size + 1 + 1, 0, none⟩) 1 1, .slice none 0 0]) (by simp [results, Tryz.results5, go_sem, q0, q1, q2]) rfl ⟨_, rfl, ⟨_, _, [], rfl, ⟨[.slice (some ⟨w.heap.size + 1, 0, none⟩) 2 2], ⟨r3, ?_⟩, ⟨Row.below r2 b3, ?_⟩, trivial⟩, rowk_nil _ _ _ _, trivial⟩, ?_⟩
 ·intro g hg
  have : w.heap.size + 1 + 1 = g := by simpa [Value.ownBlock] using hg
  omega
 ·intro g hg
  have : w.heap.size + 1 = g := by simpa [Value.ownBlock] using hg
  omega
 ·exact b1.trans ((b2.trans (b3.mono (by omega))).mono (by omega))
theorem Read_any (s : ByteArray) (w : World) (hs : s.size <= 1099511627776) (hre : RE w) (hsm : ∀ g, GR (ls s) g -> GSm g) :
  Calls Tryz.prog 6 #[.string s] w fun e w' => Below w.heap.size w w' /\ ((∃ v g, e = .returned (.tuple #[v, .bool true]) /\ SRep (fun b => w.heap.size <= b) w' (shS g) v /\ GR (ls s) g) \/ (∃ v, e = .returned (.tuple #[v, .bool false]) /\ v = .agg #[.int .i64 0, .slice none 0 0, .slice none 0 0] /\ GB (ls s))) := by
 have hun := fun w (hre : RE w) => unmarshal_any s.size s w (Nat.le_refl _) hs hre
 obtain ⟨R, hR⟩ : ∃ R, w.heap.size = R := ⟨_, rfl⟩
 obtain ⟨wx, hwx⟩ : ∃ wx, w.alloc (Obj.cells #[.int .i64 0, .slice none 0 0, .slice none 0 0] 26) = wx := ⟨_, rfl⟩
 have hx : Hid (Below w.heap.size w wx /\ Bx wx R (.int .i64 0) (.slice none 0 0) (.slice none 0 0) /\ wx.heap.size = R + 1) := by
  rw [<- hwx, <- hR]
  exact ⟨(Below.refl _ _).alloc (Nat.le_refl _) _, heap_alloc_new w _, alloc_size _ _⟩
 have H := Lib.hid (And.intro (hun wx (hre.below hx.out.1)) hsm)
 clear hun hsm hre
 go_enter Tryz.func6, Tryz.ntmps6
 go_wp2_with fail
 refine H.out.1.mono ?_
 intro e w2 hg
 obtain ⟨hb2, ⟨v, g, rfl, hv, hgr⟩ | ⟨t, u, rfl, hgb⟩⟩ := hg
 ·have hvk := GRep.toK _ _ hv
  obtain ⟨tv, uv, rfl⟩ := hv.iface
  have HV := Lib.hid (And.intro hvk (And.intro hb2 hgr))
  clear hvk hv hb2 hgr
  go_wp2_with fail
  have hb0 : Below w.heap.size w w2 := hx.out.1.trans (HV.out.2.1.mono hx.out.1.size)
  refine (shapeOf_any _ g _ w2 HV.out.1 (H.out.2 g HV.out.2.2)).mono ?_
  intro e w3 hsp
  obtain ⟨v, rfl, hv, hb3⟩ := hsp
  obtain ⟨sk, sl, sp, rfl⟩ := hv.agg
  have hb03 := hb0.trans (hb3.mono hb0.size)
  have hbx := (hx.out.2.1.below HV.out.2.1).below hb3
  have HS : Hid (SRep (fun b => w.heap.size <= b /\ b ≠ R) w3 (shS g) (.agg #[.int .i64 sk, .slice sl.1 sl.2.1 sl.2.2, .slice sp.1 sp.2.1 sp.2.2]) /\ Below w.heap.size w w3 /\ Bx w3 R (.int .i64 0) (.slice none 0 0) (.slice none 0 0)) := by
   refine ⟨SRep.mono (fun b hb _ => ?_) _ _ hv, hb03, hbx⟩
   have h1 := hx.out.2.2
   have h2 := HV.out.2.1.size
   omega
  obtain ⟨r0, r1, r2⟩ := three_cells hbx
  have f0 := Joins.unfrozen_of_block hbx 0
  have f1 := Joins.unfrozen_of_block hbx 1
  have f2 := Joins.unfrozen_of_block hbx 2
  clear hv hb3 hb03 hbx hb0
  go_wp2_with fail
  obtain ⟨q0, q1, q2⟩ := three_cells (set3 HS.out.2.2 (.int .i64 sk) (.slice sl.1 sl.2.1 sl.2.2) (.slice sp.1 sp.2.1 sp.2.2))
  refine bodyPost_ret (v := .tuple #[.agg #[.int .i64 sk, .slice sl.1 sl.2.1 sl.2.2, .slice sp.1 sp.2.1 sp.2.2], .bool true]) (by simp [results, Tryz.results6, go_sem, q0, q1, q2]) rfl ⟨below_set3 HS.out.2.1 (by omega), .inl ⟨_, g, rfl, ?_, HV.out.2.2⟩⟩
  exact SRep.mono (fun b hb _ => hb.1) _ _ (SRep.kept (kept_set3 fun b hb => hb.2) _ _ HS.out.1)
 ·have hbx := hx.out.2.1.below hb2
  have HS : Hid (GB (ls s) /\ Below w.heap.size w w2 /\ Bx w2 R (.int .i64 0) (.slice none 0 0) (.slice none 0 0)) := ⟨hgb, hx.out.1.trans (hb2.mono hx.out.1.size), hbx⟩
  obtain ⟨r0, r1, r2⟩ := three_cells hbx
  have f0 := Joins.unfrozen_of_block hbx 0
  have f1 := Joins.unfrozen_of_block hbx 1
  have f2 := Joins.unfrozen_of_block hbx 2
  clear hb2 hbx hgb
  go_wp2_with fail
  obtain ⟨q0, q1, q2⟩ := three_cells (set3 HS.out.2.2 (.int .i64 0) (.slice none 0 0) (.slice none 0 0))
  exact bodyPost_ret (v := .tuple #[.agg #[.int .i64 0, .slice none 0 0, .slice none 0 0], .bool false]) (by simp [results, Tryz.results6, go_sem, q0, q1, q2]) rfl ⟨below_set3 HS.out.2.1 (by omega), .inr ⟨_, rfl, rfl, HS.out.1⟩⟩
theorem six_cells {w : World} {b1 b2 : Nat} {x1 y1 z1 x2 y2 z2 : Value} (h1 : Bx w b1 x1 y1 z1) (h2 : Bx w b2 x2 y2 z2) :
  w.cell? ⟨b1, 0, none⟩ = some x1 /\ w.cell? ⟨b1, 1, none⟩ = some y1 /\ w.cell? ⟨b1, 2, none⟩ = some z1 /\ w.cell? ⟨b2, 0, none⟩ = some x2 /\ w.cell? ⟨b2, 1, none⟩ = some y2 /\ w.cell? ⟨b2, 2, none⟩ = some z2 := by
 obtain ⟨a, b, c⟩ := three_cells h1
 obtain ⟨d, e, f⟩ := three_cells h2
 exact ⟨a, b, c, d, e, f⟩
theorem same_any (ok1 ok2 : Nat -> Prop) (s : Shp) (v1 v2 : Value) (w : World) (h1 : SRep ok1 w s v1) (h2 : SRep ok2 w s v2) (hn : npt s <= big) :
  Calls Tryz.prog 7 #[v1, v2] w fun e w' => e = .returned (.bool true) /\ Below w.heap.size w w' := by
 have h10 := h1
 have h20 := h2
 obtain ⟨k0, rss, ss⟩ := s
 obtain ⟨l1, p1, cs1, rfl, ⟨vs1, hl1, ha1⟩, hp1, hs1⟩ := h1
 obtain ⟨l2, p2, cs2, rfl, ⟨vs2, hl2, ha2⟩, hp2, hs2⟩ := h2
 obtain ⟨A1, c1, rfl⟩ := Row.shape hl1.1
 obtain ⟨A2, c2, rfl⟩ := Row.shape hl2.1
 obtain ⟨B1, d1, rfl⟩ := Row.shape hp1.1
 obtain ⟨B2, d2, rfl⟩ := Row.shape hp2.1
 clear hl1 ha1 hp1 hs1 hl2 ha2 hp2 hs2
 obtain ⟨b1, hb1⟩ : ∃ b1, w.heap.size = b1 := ⟨_, rfl⟩
 obtain ⟨b2, hb2⟩ : ∃ b2, b1 + 1 = b2 := ⟨_, rfl⟩
 obtain ⟨wx, hwx⟩ : ∃ wx, (w.alloc (Obj.cells #[.int .i64 (k0 : Int), .slice A1 rss.length c1, .slice B1 ss.length d1] 26)).alloc (Obj.cells #[.int .i64 (k0 : Int), .slice A2 rss.length c2, .slice B2 ss.length d2] 26) = wx := ⟨_, rfl⟩
 have hx : Hid (Below w.heap.size w wx /\ Bx wx b1 (.int .i64 (k0 : Int)) (.slice A1 rss.length c1) (.slice B1 ss.length d1) /\ Bx wx b2 (.int .i64 (k0 : Int)) (.slice A2 rss.length c2) (.slice B2 ss.length d2)) := by
  rw [<- hwx]
  refine ⟨below_alloc (below_alloc (Below.refl _ _) _) _, ?_, ?_⟩
  ·rw [<- hb1]
   exact (Below.heap_alloc _ _ _ (by rw [alloc_size]; omega)).trans (heap_alloc_new w _)
  ·rw [<- hb2, <- hb1, <- alloc_size w (Obj.cells #[.int .i64 (k0 : Int), .slice A1 rss.length c1, .slice B1 ss.length d1] 26)]
   exact heap_alloc_new _ _
 have H := Lib.hid (And.intro h10 (And.intro h20 hn))
 clear h10 h20 hn
 obtain ⟨N, hN⟩ : ∃ N, npt (.mk k0 rss ss) = N := ⟨_, rfl⟩
 rw [hN] at H
 have HN := Lib.hid hN
 clear hN
 have hpo1 : ∀ wy, Below w.heap.size w wy -> Calls Tryz.prog 12 #[.agg #[.int .i64 (k0 : Int), .slice A1 rss.length c1, .slice B1 ss.length d1]] wy fun e w' => ∃ A c, e = .returned (.slice A N c) /\ Below wy.heap.size wy w' := by
  intro wy hb
  refine (points_any ok1 _ _ _ (SRep.kept (Kept.below hb) _ _ H.out.1) (by rw [HN.out]; exact H.out.2.2)).mono ?_
  rintro e w' ⟨u, us, rfl, hu, -, hb2⟩
  obtain ⟨uA, uc, rfl⟩ := Row.shape hu.1
  rw [HN.out]
  exact ⟨_, _, rfl, hb2⟩
 have hpo2 : ∀ wy, Below w.heap.size w wy -> Calls Tryz.prog 12 #[.agg #[.int .i64 (k0 : Int), .slice A2 rss.length c2, .slice B2 ss.length d2]] wy fun e w' => ∃ A c, e = .returned (.slice A N c) /\ Below wy.heap.size wy w' := by
  intro wy hb
  refine (points_any ok2 _ _ _ (SRep.kept (Kept.below hb) _ _ H.out.2.1) (by rw [HN.out]; exact H.out.2.2)).mono ?_
  rintro e w' ⟨u, us, rfl, hu, -, hb2⟩
  obtain ⟨uA, uc, rfl⟩ := Row.shape hu.1
  rw [HN.out]
  exact ⟨_, _, rfl, hb2⟩
 have HP := Lib.hid (And.intro hpo1 hpo2)
 clear hpo1 hpo2
 have c7 := six_cells hx.out.2.1 hx.out.2.2
 obtain ⟨x1, x2, x3, x4, x5, x6⟩ := c7
 have hwd : Below w.heap.size w wx.drew := hx.out.1.trans ⟨rfl, rfl, rfl, Nat.le_refl _, fun _ _ => rfl⟩
 have hsam : Hid (∀ wz : World, Below w.heap.size w wz -> Calls Tryz.prog 13 #[.agg #[.int .i64 (k0 : Int), .slice A1 rss.length c1, .slice B1 ss.length d1], .agg #[.int .i64 (k0 : Int), .slice A2 rss.length c2, .slice B2 ss.length d2]] wz fun e w' => e = .returned (.bool true) /\ Below wz.heap.size wz w') := fun wz hbz => sameShape_any ok1 ok2 _ _ _ wz (SRep.kept (Kept.below hbz) _ _ H.out.1) (SRep.kept (Kept.below hbz) _ _ H.out.2.1)
 clear hwd
 by_cases hN0 : N = 0
 ·have g1 : ((N : Int) == 0) = true := by rw [beq_iff_eq]; omega
  by_cases hss : ss.length = 0
  ·have g2 : ((ss.length : Int) == 0) = true := by rw [beq_iff_eq]; omega
   clear hN0 hss
   go_enter Tryz.func7, Tryz.ntmps7
   go_wp2_with fail
   refine (HP.out.1 wx hx.out.1).mono ?_
   rintro e w8 ⟨A8, n8, rfl, hb8⟩
   have HB8 : Hid (Below w.heap.size w w8 /\ Below wx.heap.size wx w8) := ⟨hx.out.1.trans (hb8.mono hx.out.1.size), hb8⟩
   obtain ⟨y1, y2, y3, y4, y5, y6⟩ := six_cells (hx.out.2.1.below hb8) (hx.out.2.2.below hb8)
   clear hb8 x1 x2 x3 x4 x5 x6
   go_wp2_with fail
   refine (HP.out.2 w8 HB8.out.1).mono ?_
   rintro e w9 ⟨A9, n9, rfl, hb9⟩
   have HB : Hid (Below w.heap.size w w9) := HB8.out.1.trans (hb9.mono HB8.out.1.size)
   obtain ⟨z1, z2, z3, z4, z5, z6⟩ := six_cells ((hx.out.2.1.below HB8.out.2).below hb9) ((hx.out.2.2.below HB8.out.2).below hb9)
   clear hb9 y1 y2 y3 y4 y5 y6
   go_wp2_with fail
   go_returns
   exact ⟨by simp, HB.out⟩
  ·have g2 : ((ss.length : Int) == 0) = false := by rw [beq_eq_false_iff_ne]; omega
   clear hN0 hss
   go_enter Tryz.func7, Tryz.ntmps7
   go_wp2_with fail
   refine (HP.out.1 wx hx.out.1).mono ?_
   rintro e w8 ⟨A8, n8, rfl, hb8⟩
   have HB8 : Hid (Below w.heap.size w w8 /\ Below wx.heap.size wx w8) := ⟨hx.out.1.trans (hb8.mono hx.out.1.size), hb8⟩
   obtain ⟨y1, y2, y3, y4, y5, y6⟩ := six_cells (hx.out.2.1.below hb8) (hx.out.2.2.below hb8)
   clear hb8 x1 x2 x3 x4 x5 x6
   go_wp2_with fail
   refine (HP.out.2 w8 HB8.out.1).mono ?_
   rintro e w9 ⟨A9, n9, rfl, hb9⟩
   have HB : Hid (Below w.heap.size w w9) := HB8.out.1.trans (hb9.mono HB8.out.1.size)
   obtain ⟨z1, z2, z3, z4, z5, z6⟩ := six_cells ((hx.out.2.1.below HB8.out.2).below hb9) ((hx.out.2.2.below HB8.out.2).below hb9)
   clear hb9 y1 y2 y3 y4 y5 y6
   go_wp2_with fail
   refine (hsam.out _ HB.out).mono ?_
   rintro e w7 ⟨rfl, hb7⟩
   have HZ := Lib.hid (HB.out.trans (hb7.mono HB.out.size))
   clear hb7
   go_wp2_with fail
   go_returns
   exact ⟨by simp, HZ.out⟩
 ·have g1 : ((N : Int) == 0) = false := by rw [beq_eq_false_iff_ne]; omega
  clear hN0
  go_enter Tryz.func7, Tryz.ntmps7
  go_wp2_with fail
  refine (HP.out.1 wx hx.out.1).mono ?_
  rintro e w8 ⟨A8, n8, rfl, hb8⟩
  have HB8 : Hid (Below w.heap.size w w8 /\ Below wx.heap.size wx w8) := ⟨hx.out.1.trans (hb8.mono hx.out.1.size), hb8⟩
  obtain ⟨y1, y2, y3, y4, y5, y6⟩ := six_cells (hx.out.2.1.below hb8) (hx.out.2.2.below hb8)
  clear hb8 x1 x2 x3 x4 x5 x6
  go_wp2_with fail
  have HB : Hid (Below w.heap.size w w8) := HB8.out.1
  refine (hsam.out _ HB.out).mono ?_
  rintro e w7 ⟨rfl, hb7⟩
  have HZ := Lib.hid (HB.out.trans (hb7.mono HB.out.size))
  clear hb7
  go_wp2_with fail
  go_returns
  exact ⟨by simp, HZ.out⟩
def lineG : Geo := .line [(4607182418800017408, 4611686018427387904), (4613937818241073152, 4616189618054758400)]
theorem lineG_text : gT lineG = [76, 73, 78, 69, 83, 84, 82, 73, 78, 71, 40, 49, 32, 50, 44, 51, 32, 52, 41] := by decide +kernel
theorem lineG_v : GV lineG := by
 intro p hp
 simp at hp
 rcases hp with rfl | rfl <;> decide
theorem lineG_sm : GSm lineG := by show 2 <= big; decide
structure Plain (l : List UInt8) (g : Geo) : Prop where
 sm : GSm g
 v : GV g
 len : (gT g).length <= 1099511627776
 n : npt (shS g) <= big
 only : ∀ g', GR (gT g) g' -> g' = g
 good : ¬ GB (gT g)
theorem readAgain_any (s : ByteArray) (w : World) (hre : RE w) (hfo : Fo w) (hp : s.size <= 2147483647 -> ∀ g, GR (ls s) g -> Plain (ls s) g) :
  Calls Tryz.prog 3 #[.string s] w fun e w' => e = .returned (.bool true) /\ Below w.heap.size w w' := by
 have H := Lib.hid (And.intro hre (And.intro hfo hp))
 clear hre hfo hp
 by_cases hbig : 2147483647 < s.size
 ·have hb1 : (2147483647 : Int) < (s.size : Int) := by omega
  clear hbig
  go_enter Tryz.func3, Tryz.ntmps3
  go_wp2_with fail
  go_returns
  exact ⟨rfl, Below.refl _ _⟩
 ·have hb1 : ¬ ((2147483647 : Int) < (s.size : Int)) := by omega
  have HL : Hid (s.size <= 2147483647) := Nat.le_of_not_lt hbig
  clear hbig
  obtain ⟨LT, hLT⟩ : ∃ L : ByteArray, bs (gT lineG) = L := ⟨_, rfl⟩
  have HLT := Lib.hid hLT
  have hLTc : LT = { data := #[76, 73, 78, 69, 83, 84, 82, 73, 78, 71, 40, 49, 32, 50, 44, 51, 32, 52, 41] } := by
   rw [<- hLT, lineG_text]; rfl
  have hcmp : (LT.toList == [76, 73, 78, 69, 83, 84, 82, 73, 78, 71, 40, 49, 32, 50, 44, 51, 32, 52, 41]) = true := by rw [hLTc]; decide +kernel
  clear hLT hLTc
  go_enter Tryz.func3, Tryz.ntmps3
  go_wp2_with fail
  refine (line_any w).mono ?_
  rintro e w1 ⟨v1, rfl, hv1, hb1w⟩
  have HV1 := Lib.hid (And.intro hv1 hb1w)
  obtain ⟨k1, sl1, sp1, rfl⟩ := hv1.agg
  clear hv1 hb1w
  go_wp2_with fail
  refine (Write_any _ lineG _ w1 HV1.out.1 lineG_sm lineG_v (by rw [lineG_text]; simp) (H.out.2.1.below HV1.out.2)).mono ?_
  rintro e w2 ⟨rfl, hb2w⟩
  rw [HLT.out]
  have HV2 : Hid (Below w.heap.size w w2) := HV1.out.2.trans (hb2w.mono HV1.out.2.size)
  clear hb2w HV1
  go_wp2_with fail
  refine (Read_any s w2 (by have := HL.out; omega) (H.out.1.below HV2.out) (fun g hg => (H.out.2.2 HL.out g hg).sm)).mono ?_
  rintro e w3 ⟨hb3w, ⟨v3, g, rfl, hv3, hgr⟩ | ⟨v3, rfl, rfl, hgb⟩⟩
  ·obtain ⟨k3, sl3, sp3, rfl⟩ := hv3.agg
   have HV3 : Hid (Below w.heap.size w w3 /\ SRep (fun b => w2.heap.size <= b) w3 (shS g) (.agg #[.int .i64 k3, .slice sl3.1 sl3.2.1 sl3.2.2, .slice sp3.1 sp3.2.1 sp3.2.2]) /\ Plain (ls s) g) := ⟨HV2.out.trans (hb3w.mono HV2.out.size), hv3, H.out.2.2 HL.out g hgr⟩
   clear hb3w hv3 hgr
   obtain ⟨R, hR⟩ : ∃ R, w3.heap.size = R := ⟨_, rfl⟩
   go_wp2_with fail
   obtain ⟨w4, hw4⟩ : ∃ w4, w3.alloc (Obj.cells #[.int .i64 k3, .slice sl3.1 sl3.2.1 sl3.2.2, .slice sp3.1 sp3.2.1 sp3.2.2] 26) = w4 := ⟨_, rfl⟩
   have hb34 : Below w3.heap.size w3 w4 := by rw [<- hw4]; exact (Below.refl _ _).alloc (Nat.le_refl _) _
   have hbx4 : Bx w4 R (.int .i64 k3) (.slice sl3.1 sl3.2.1 sl3.2.2) (.slice sp3.1 sp3.2.1 sp3.2.2) := by rw [<- hw4, <- hR]; exact heap_alloc_new w3 _
   rw [hw4]
   have HV4 : Hid (Below w.heap.size w w4 /\ SRep (fun b => w2.heap.size <= b) w4 (shS g) (.agg #[.int .i64 k3, .slice sl3.1 sl3.2.1 sl3.2.2, .slice sp3.1 sp3.2.1 sp3.2.2]) /\ Bx w4 R (.int .i64 k3) (.slice sl3.1 sl3.2.1 sl3.2.2) (.slice sp3.1 sp3.2.1 sp3.2.2)) := ⟨HV3.out.1.trans (hb34.mono HV3.out.1.size), SRep.kept (Kept.below hb34) _ _ HV3.out.2.1, hbx4⟩
   clear hb34 hbx4 hw4 hR
   refine (Write_any _ g _ w4 HV4.out.2.1 HV3.out.2.2.sm HV3.out.2.2.v (by have := HV3.out.2.2.len; omega) (H.out.2.1.below HV4.out.1)).mono ?_
   rintro e w5 ⟨rfl, hb5w⟩
   have HV5 : Hid (Below w.heap.size w w5 /\ SRep (fun b => w2.heap.size <= b) w5 (shS g) (.agg #[.int .i64 k3, .slice sl3.1 sl3.2.1 sl3.2.2, .slice sp3.1 sp3.2.1 sp3.2.2]) /\ Bx w5 R (.int .i64 k3) (.slice sl3.1 sl3.2.1 sl3.2.2) (.slice sp3.1 sp3.2.1 sp3.2.2)) := ⟨HV4.out.1.trans (hb5w.mono HV4.out.1.size), SRep.kept (Kept.below hb5w) _ _ HV4.out.2.1, HV4.out.2.2.below hb5w⟩
   obtain ⟨GT, hGT⟩ : ∃ GT : ByteArray, bs (gT g) = GT := ⟨_, rfl⟩
   rw [hGT]
   have hGL : ls GT = gT g := by rw [<- hGT]; simp [ls, bs]
   have HGT : Hid (GT.size <= 1099511627776 /\ (∀ g', GR (ls GT) g' -> g' = g) /\ ¬ GB (ls GT)) := by
    refine ⟨?_, by rw [hGL]; exact HV3.out.2.2.only, by rw [hGL]; exact HV3.out.2.2.good⟩
    rw [<- hGT, bs_size]; exact HV3.out.2.2.len
   clear hGT hGL hb5w HV4
   go_wp2_with fail
   refine (Read_any GT w5 HGT.out.1 (H.out.1.below HV5.out.1) (fun g' hg => by rw [HGT.out.2.1 g' hg]; exact HV3.out.2.2.sm)).mono ?_
   rintro e w6 ⟨hb6w, ⟨v6, g6, rfl, hv6, hgr6⟩ | ⟨v6, rfl, -, hgb⟩⟩
   ·obtain rfl : g6 = g := HGT.out.2.1 g6 hgr6
    obtain ⟨k6, sl6, sp6, rfl⟩ := hv6.agg
    obtain ⟨R6, hR6⟩ : ∃ R6, w6.heap.size = R6 := ⟨_, rfl⟩
    have HV6 : Hid (Below w.heap.size w w6 /\ SRep (fun b => w2.heap.size <= b) w6 (shS g6) (.agg #[.int .i64 k3, .slice sl3.1 sl3.2.1 sl3.2.2, .slice sp3.1 sp3.2.1 sp3.2.2]) /\ Bx w6 R (.int .i64 k3) (.slice sl3.1 sl3.2.1 sl3.2.2) (.slice sp3.1 sp3.2.1 sp3.2.2) /\ SRep (fun b => w5.heap.size <= b) w6 (shS g6) (.agg #[.int .i64 k6, .slice sl6.1 sl6.2.1 sl6.2.2, .slice sp6.1 sp6.2.1 sp6.2.2])) := ⟨HV5.out.1.trans (hb6w.mono HV5.out.1.size), SRep.kept (Kept.below hb6w) _ _ HV5.out.2.1, HV5.out.2.2.below hb6w, hv6⟩
    clear hb6w hv6 hgr6 HV5
    obtain ⟨w7, hw7⟩ : ∃ w7, w6.alloc (Obj.cells #[.int .i64 k6, .slice sl6.1 sl6.2.1 sl6.2.2, .slice sp6.1 sp6.2.1 sp6.2.2] 26) = w7 := ⟨_, rfl⟩
    have hb67 : Below w6.heap.size w6 w7 := by rw [<- hw7]; exact (Below.refl _ _).alloc (Nat.le_refl _) _
    have HV7 : Hid (Below w.heap.size w w7 /\ SRep (fun b => w2.heap.size <= b) w7 (shS g6) (.agg #[.int .i64 k3, .slice sl3.1 sl3.2.1 sl3.2.2, .slice sp3.1 sp3.2.1 sp3.2.2]) /\ SRep (fun b => w5.heap.size <= b) w7 (shS g6) (.agg #[.int .i64 k6, .slice sl6.1 sl6.2.1 sl6.2.2, .slice sp6.1 sp6.2.1 sp6.2.2])) := ⟨HV6.out.1.trans (hb67.mono HV6.out.1.size), SRep.kept (Kept.below hb67) _ _ HV6.out.2.1, SRep.kept (Kept.below hb67) _ _ HV6.out.2.2.2⟩
    obtain ⟨x1, x2, x3⟩ := three_cells (HV6.out.2.2.1.below hb67)
    obtain ⟨y1, y2, y3⟩ := three_cells (show w7.heap[R6]? = some (Obj.cells #[.int .i64 k6, .slice sl6.1 sl6.2.1 sl6.2.2, .slice sp6.1 sp6.2.1 sp6.2.2] 26 (0, 0)) by rw [<- hw7, <- hR6]; exact heap_alloc_new w6 _)
    clear hb67
    go_wp2_with fail
    refine (same_any _ _ (shS g6) _ _ w7 HV7.out.2.2 HV7.out.2.1 HV3.out.2.2.n).mono ?_
    rintro e w8 ⟨rfl, hb8⟩
    have HV8 : Hid (Below w.heap.size w w8) := HV7.out.1.trans (hb8.mono HV7.out.1.size)
    clear hb8
    go_wp2_with fail
    go_returns
    exact ⟨by simp, HV8.out⟩
   ·exact absurd hgb HGT.out.2.2
  ·have HG := Lib.hid (And.intro hgb (HV2.out.trans (hb3w.mono HV2.out.size)))
   clear hgb hb3w
   go_wp2_with fail
   go_returns
   exact ⟨rfl, below_alloc HG.out.2 _⟩
end Go.Proofs.YtdfolbmoohcblaaGreatDoor
