/-
For FnReadAgain, part 43: W24 W25.
-/
import Derived.Test.YtdfolbmoohcblaaGreatDoorM42
set_option linter.all false
namespace Go.Proofs.YtdfolbmoohcblaaGreatDoor
set_option maxHeartbeats 4000000
set_option maxRecDepth 100000
open Go.RowKit
theorem agg3_inj {a b c a' b' c' : Value} (h : Value.agg #[a, b, c] = .agg #[a', b', c']) : a = a' /\ b = b' /\ c = c' := by
 have h2 : [a, b, c] = [a', b', c'] := congrArg Array.toList (Value.agg.inj h)
 injection h2 with e1 h2
 injection h2 with e2 h2
 injection h2 with e3 h2
 exact ⟨e1, e2, e3⟩
def GmPost (w : World) (g : Geo) (e : Ending) (w' : World) : Prop := ∃ v, e = .returned v /\ GRepK (fun b => w.heap.size <= b) w' g v /\ Below w.heap.size w w'
def PlR (w : World) (xs : List (List (List (Nat × Nat)))) (n : Nat) (v vi : Value) (wr : World) : Prop :=
 ∃ (k : Nat) (vs : List Value), n = xs.length - k /\ k <= xs.length /\ vi = .int .i64 k /\ Hid (wr.ownsRow w.heap.size 52 1 v k vs /\ All2 (LsK (Away w.heap.size v) wr 86 47) vs (xs.take k) /\ Below w.heap.size w wr)
def GsR (w : World) (gs : List Geo) (n : Nat) (v vi : Value) (wr : World) : Prop :=
 ∃ (k : Nat) (vs : List Value), n = gs.length - k /\ k <= gs.length /\ vi = .int .i64 k /\ Hid (wr.ownsRow w.heap.size 33 1 v k vs /\ GRepKs (Away w.heap.size v) wr (gs.take k) vs /\ Below w.heap.size w wr)
theorem geom_point (ok : Nat -> Prop) (w : World) (v : Value) (p : Nat × Nat) (h : SRep ok w (.mk 1 [[p]] []) v)  :
  Calls Tryz.prog 8 #[v] w (GmPost w (.point p)) := by
 have h0 := h
 obtain ⟨lv, pv, cs, rfl, ⟨vs, hr, -⟩, hp, -⟩ := h0
 obtain ⟨lA, lc, rfl⟩ := Row.shape hr.1
 obtain ⟨pA, pc, rfl⟩ := Row.shape hp.1
 clear hr hp
 have H := Lib.hid h
 clear h
 go_enter Tryz.func8, Tryz.ntmps8
 go_wp2_with fail
 refine (first_any ok _ 1 [p] [] [] _ (SRep.kept (Kept.below ((Below.refl _ _).alloc (Nat.le_refl _) _)) _ _ H.out)).mono ?_
 rintro e w2 ⟨u, rfl, hu, hb2⟩
 obtain ⟨uA, uc, rfl⟩ := Row.shape hu.1
 have HU : Hid (SRep ok w2 (.mk 1 [[p]] []) (.agg #[.int .i64 ((1 : Nat) : Int), .slice lA 1 lc, .slice pA 0 pc]) /\ Below w.heap.size w w2) := by
  have hb : Below w.heap.size w w2 := ((Below.refl _ _).alloc (Nat.le_refl _) _).trans (hb2.mono (by rw [alloc_size]; omega))
  exact ⟨SRep.kept (Kept.below hb) _ _ H.out, hb⟩
 have e0 := cell_later hb2 (show (w.alloc (Obj.cells #[.int .i64 ((1 : Nat) : Int), .slice lA 1 lc, .slice pA 0 pc] 26)).cell? ⟨w.heap.size, 0, none⟩ = some (.int .i64 1) from by rw [Joins.cell_of_block (heap_alloc_new w _)]; rfl)
 have e1 := cell_later hb2 (show (w.alloc (Obj.cells #[.int .i64 ((1 : Nat) : Int), .slice lA 1 lc, .slice pA 0 pc] 26)).cell? ⟨w.heap.size, 1, none⟩ = some (.slice lA 1 lc) from by rw [Joins.cell_of_block (heap_alloc_new w _)]; rfl)
 have e2 := cell_later hb2 (show (w.alloc (Obj.cells #[.int .i64 ((1 : Nat) : Int), .slice lA 1 lc, .slice pA 0 pc] 26)).cell? ⟨w.heap.size, 2, none⟩ = some (.slice pA 0 pc) from by rw [Joins.cell_of_block (heap_alloc_new w _)]; rfl)
 clear hu hb2
 go_wp2_with fail
 refine (first_any ok w2 1 [p] [] [] _ HU.out.1).mono ?_
 rintro e w3 ⟨u2, rfl, hu2, hb3⟩
 have HV : Hid (PtK ok w3 38 u2 [p] /\ Below w.heap.size w w3) := ⟨hu2, HU.out.2.trans (hb3.mono HU.out.2.size)⟩
 clear hu2 hb3
 go_wp2_with fail
 refine (pointsOf_any ok w3 _ [p] HV.out.1 (by simp)).mono ?_
 rintro e w4 ⟨u3, rfl, hu3, hb4⟩
 obtain ⟨g, c', rfl, -⟩ := Row.pos hu3.1 (by simp)
 have c1 := hu3.cell 0 (u := .float .f64 p.1) rfl
 have c2 := hu3.cell 1 (u := .float .f64 p.2) rfl
 have HW := Lib.hid (HV.out.2.trans (hb4.mono HV.out.2.size))
 clear hu3 hb4
 go_wp2_with fail
 go_returns
 exact ⟨_, rfl, rfl, HW.out⟩
theorem geom_line (ok : Nat -> Prop) (w : World) (v : Value) (ps : List (Nat × Nat)) (h : SRep ok w (.mk 2 [ps] []) v) (hn : ps.length <= big) :
  Calls Tryz.prog 8 #[v] w (GmPost w (.line ps)) := by
 have h0 := h
 obtain ⟨lv, pv, cs, rfl, ⟨vs, hr, -⟩, hp, -⟩ := h0
 obtain ⟨lA, lc, rfl⟩ := Row.shape hr.1
 obtain ⟨pA, pc, rfl⟩ := Row.shape hp.1
 clear hr hp
 have H := Lib.hid h
 clear h
 go_enter Tryz.func8, Tryz.ntmps8
 go_wp2_with fail
 refine (first_any ok _ 2 ps [] [] _ (SRep.kept (Kept.below ((Below.refl _ _).alloc (Nat.le_refl _) _)) _ _ H.out)).mono ?_
 rintro e w2 ⟨u, rfl, hu, hb2⟩
 have HU : Hid (PtK ok w2 38 u ps /\ Below w.heap.size w w2) := ⟨hu, ((Below.refl _ _).alloc (Nat.le_refl _) _).trans (hb2.mono (by rw [alloc_size]; omega))⟩
 clear hu hb2
 go_wp2_with fail
 refine (pointsOf_any ok w2 _ ps HU.out.1 hn).mono ?_
 rintro e w3 ⟨u2, rfl, hu2, hb3⟩
 have HV : Hid (PtK (fun b => w.heap.size <= b) w3 47 u2 ps /\ Below w.heap.size w w3) := ⟨hu2.mono fun g hg _ => Nat.le_trans HU.out.2.size hg, HU.out.2.trans (hb3.mono HU.out.2.size)⟩
 clear hu2 hb3
 go_wp2_with fail
 go_returns
 exact ⟨_, rfl, ⟨_, rfl, HV.out.1⟩, HV.out.2⟩
theorem geom_poly (ok : Nat -> Prop) (w : World) (v : Value) (rss : List (List (Nat × Nat))) (h : SRep ok w (polyS rss) v) (hn : rss.length <= big) (hn2 : ∀ ps ∈ rss, ps.length <= big) :
  Calls Tryz.prog 8 #[v] w (GmPost w (.poly rss)) := by
 have h0 := h
 obtain ⟨lv, pv, cs, rfl, ⟨vs, hr, -⟩, hp, -⟩ := h0
 obtain ⟨lA, lc, rfl⟩ := Row.shape hr.1
 obtain ⟨pA, pc, rfl⟩ := Row.shape hp.1
 clear hr hp
 have H := Lib.hid h
 clear h
 go_enter Tryz.func8, Tryz.ntmps8
 go_wp2_with fail
 refine (polygonOf_any ok _ 3 rss [] _ (SRep.kept (Kept.below ((Below.refl _ _).alloc (Nat.le_refl _) _)) _ _ H.out) hn hn2).mono ?_
 rintro e w2 ⟨u, rfl, hu, hb2⟩
 have HV : Hid (LsK (fun b => w.heap.size <= b) w2 86 47 u rss /\ Below w.heap.size w w2) := ⟨hu.mono fun g hg _ => (by rw [alloc_size] at hg; omega), ((Below.refl _ _).alloc (Nat.le_refl _) _).trans (hb2.mono (by rw [alloc_size]; omega))⟩
 clear hu hb2
 go_wp2_with fail
 go_returns
 exact ⟨_, rfl, ⟨_, rfl, HV.out.1⟩, HV.out.2⟩
theorem geom_mpoint (ok : Nat -> Prop) (w : World) (v : Value) (ps : List (Nat × Nat)) (h : SRep ok w (.mk 4 [ps] []) v) (hn : ps.length <= big) :
  Calls Tryz.prog 8 #[v] w (GmPost w (.mpoint ps)) := by
 have h0 := h
 obtain ⟨lv, pv, cs, rfl, ⟨vs, hr, -⟩, hp, -⟩ := h0
 obtain ⟨lA, lc, rfl⟩ := Row.shape hr.1
 obtain ⟨pA, pc, rfl⟩ := Row.shape hp.1
 clear hr hp
 have H := Lib.hid h
 clear h
 go_enter Tryz.func8, Tryz.ntmps8
 go_wp2_with fail
 refine (first_any ok _ 4 ps [] [] _ (SRep.kept (Kept.below ((Below.refl _ _).alloc (Nat.le_refl _) _)) _ _ H.out)).mono ?_
 rintro e w2 ⟨u, rfl, hu, hb2⟩
 have HU : Hid (PtK ok w2 38 u ps /\ Below w.heap.size w w2) := ⟨hu, ((Below.refl _ _).alloc (Nat.le_refl _) _).trans (hb2.mono (by rw [alloc_size]; omega))⟩
 clear hu hb2
 go_wp2_with fail
 refine (pointsOf_any ok w2 _ ps HU.out.1 hn).mono ?_
 rintro e w3 ⟨u2, rfl, hu2, hb3⟩
 have HV : Hid (PtK (fun b => w.heap.size <= b) w3 47 u2 ps /\ Below w.heap.size w w3) := ⟨hu2.mono fun g hg _ => Nat.le_trans HU.out.2.size hg, HU.out.2.trans (hb3.mono HU.out.2.size)⟩
 clear hu2 hb3
 go_wp2_with fail
 go_returns
 exact ⟨_, rfl, ⟨_, rfl, HV.out.1⟩, HV.out.2⟩
theorem geom_mline (ok : Nat -> Prop) (w : World) (v : Value) (rss : List (List (Nat × Nat))) (h : SRep ok w (.mk 5 rss []) v) (hn : rss.length <= big) (hn2 : ∀ ps ∈ rss, ps.length <= big) :
  Calls Tryz.prog 8 #[v] w (GmPost w (.mline rss)) := by
 obtain ⟨lv, pv, cs, rfl, ⟨vs0, hrow, hall⟩, hp, -⟩ := h
 obtain ⟨A, c, rfl⟩ := Row.shape hrow.1
 obtain ⟨pA, pc, rfl⟩ := Row.shape hp.1
 obtain ⟨j0, hj, hy0, hy1, hy2⟩ := info_parts info50
 have hn : rss.length <= 1000000000000 := hn
 have H := Lib.hid (And.intro hrow (And.intro hall hn2))
 clear hrow hall hp hn2
 go_enter Tryz.func8, Tryz.ntmps8
 go_wp2_with fail
 go_loopg [3, 50] rss.length (fun n v3 v10 wr => LstR 50 47 w rss n v3 v10 wr)
 case atStart => exact ⟨0, [], by omega, Nat.zero_le _, rfl, row_lit_at (w.alloc _) w.heap.size 50 1 0 _ [] (alloc_size _ _).symm (below_alloc (Below.refl _ _) _).size rfl (by unfold maxLen; omega), trivial, below_alloc (below_alloc (Below.refl _ _) _) _⟩
 case round =>
  obtain ⟨k, vs, hgk, hk, rfl, hws⟩ := hrel
  obtain ⟨oA, oc, rfl⟩ := Row.shape hws.out.1
  by_cases hkl : k = rss.length
  ·subst hkl
   have HWS : Hid (LsK (fun g => w.heap.size <= g) wr 50 47 (.slice oA rss.length oc) rss /\ Below w.heap.size w wr) := by
    have h1 := hws.out
    rw [List.take_length] at h1
    exact ⟨⟨vs, RowK.of h1.1, h1.2.1.imp fun _ _ h => h.mono fun g a _ => a.1⟩, h1.2.2⟩
   clear hws
   go_wp2_with fail
   go_returns
   exact ⟨_, rfl, ⟨_, rfl, HWS.out.1⟩, HWS.out.2⟩
  ·obtain ⟨ps, hp⟩ : ∃ ps, rss[k]? = some ps := ⟨_, List.getElem?_eq_getElem (by omega)⟩
   obtain ⟨g, c', hA, -⟩ := Row.pos H.out.1.1 (by omega)
   injection hA with hA1 hA2 hA3
   subst hA1
   subst hA3
   obtain ⟨vk, hvk, hpt⟩ := All2.get' H.out.2.1 hp
   obtain ⟨kA, kc, rfl⟩ := Row.shape hpt.1
   have c1 := (H.out.1.kept (Kept.below hws.out.2.2)).cell k hvk
   have HP := Lib.hid (And.intro hp (And.intro (hpt.kept (Kept.below hws.out.2.2)) (H.out.2.2 ps (List.mem_of_getElem? hp))))
   have hglt : g < wr.heap.size := World.block_lt_of_cell? _ _ c1
   have hsz := hws.out.2.2.size
   clear hp hpt
   have hk0 : (0 : Int) <= (k : Int) := by omega
   have hk1 : (k : Int) < (rss.length : Int) := by omega
   have hk3 : (k : Int) + 1 <= 9223372036854775807 := by omega
   go_wp2_with fail
   refine (pointsOf_any ok _ _ ps HP.out.2.1 HP.out.2.2).mono ?_
   rintro e w1 ⟨u, rfl, hu, hb1⟩
   obtain ⟨uA, uc, rfl⟩ := Row.shape hu.1
   have hown1 := Row.below hws.out.1 hb1
   have hb0 := hws.out.2.2.trans (hb1.mono hsz)
   have hmem : All2 (PtK (Away w.heap.size (.slice oA k oc)) w1 47) (vs ++ [.slice uA ps.length uc]) (rss.take (k + 1)) := by
    rw [take_next HP.out.1]
    exact ((rp_pts 47 vs (rss.take k)).below hws.out.2.1 hb1).snoc (hu.mono fun g hg _ => away_new hws.out.1 hsz g hg)
   have hsz1 := hb0.size
   have HM := Lib.hid (And.intro hmem hb0)
   clear hu hb1 hmem hb0 c1
   go_wp2_with (at_builtin; refine wpList_append_lies _ rfl (.tmp 54) (.tmp 57) 56 rfl w.heap.size 50 j0 (.slice none 0 0) 1 24 Tryz.underlying56 hj hy0 hy1 hy2 rfl (by decide) _ _ _ rfl (hown1.alloc _) ⟨w1.heap.size, 0, none⟩ 1 1 [.slice uA ps.length uc] rfl rfl (one_new rfl) (one_cell rfl) (by omega) ?d3 ?d4 ?d5 _ rfl ?_)
   case d3 => unfold maxLen; omega
   case d4 => omega
   case d5 => first | omega | (simp; omega)
   intro g' c' w' hown' hgr hat hlt
   have HW' : Hid (w'.ownsRow w.heap.size 50 1 (.slice (some ⟨g', 0, none⟩) (k + 1) c') (k + 1) (vs ++ [.slice uA ps.length uc]) /\ All2 (PtK (Away w.heap.size (.slice (some ⟨g', 0, none⟩) (k + 1) c')) w' 47) (vs ++ [.slice uA ps.length uc]) (rss.take (k + 1)) /\ Below w.heap.size w w') := by
    have hm2 := (rp_pts 47 _ _).below HM.out.1 ((Below.refl _ _).alloc (Nat.le_refl _) (Obj.cells #[.slice uA ps.length uc] 50))
    refine ⟨hown', (rp_pts 47 _ _).grown hm2 hgr (by rw [alloc_size]; exact hat), grown_below (hown1.alloc _) (below_alloc HM.out.2 _) ?_ hgr⟩
    have := (below_alloc HM.out.2 (Obj.cells #[.slice uA ps.length uc] 50)).size
    exact this
   clear hown' hgr hat hlt hown1
   go_wp2_with fail
   go_roundg (gk - 1)
   case rel => exact ⟨k + 1, _, by omega, by omega, by go_num, HW'⟩
   case measure => omega
theorem geom_mpoly (ok : Nat -> Prop) (w : World) (v : Value) (xs : List (List (List (Nat × Nat)))) (h : SRep ok w (.mk 6 [] (xs.map polyS)) v) (hn : xs.length <= big) (hn2 : ∀ rss ∈ xs, rss.length <= big /\ ∀ ps ∈ rss, ps.length <= big) :
  Calls Tryz.prog 8 #[v] w (GmPost w (.mpoly xs)) := by
 obtain ⟨lv, pv, cs0, rfl, ⟨vs0, hr0, -⟩, hrow, hall⟩ := h
 rw [List.length_map] at hrow
 obtain ⟨lA, lc, rfl⟩ := Row.shape hr0.1
 obtain ⟨A, c, rfl⟩ := Row.shape hrow.1
 obtain ⟨j0, hj, hy0, hy1, hy2⟩ := info_parts info52
 have hn : xs.length <= 1000000000000 := hn
 have H := Lib.hid (And.intro hrow (And.intro hall hn2))
 skip
 clear hrow hall hr0 hn2
 go_enter Tryz.func8, Tryz.ntmps8
 go_wp2_with fail
 go_loopg [6, 68] xs.length (fun n v3 v10 wr => PlR w xs n v3 v10 wr)
 case atStart => exact ⟨0, [], by omega, Nat.zero_le _, rfl, row_lit_at (w.alloc _) w.heap.size 52 1 0 _ [] (alloc_size _ _).symm (below_alloc (Below.refl _ _) _).size rfl (by unfold maxLen; omega), trivial, below_alloc (below_alloc (Below.refl _ _) _) _⟩
 case round =>
  obtain ⟨k, vs, hgk, hk, rfl, hws⟩ := hrel
  obtain ⟨oA, oc, rfl⟩ := Row.shape hws.out.1
  by_cases hkl : k = xs.length
  ·subst hkl
   have HWS : Hid (GRepK (fun g => w.heap.size <= g) wr (.mpoly xs) (.iface 58 (.slice oA xs.length oc)) /\ Below w.heap.size w wr) := by
    have h1 := hws.out
    rw [List.take_length] at h1
    exact ⟨⟨_, vs, rfl, RowK.of h1.1, h1.2.1.imp fun _ _ h => h.mono fun g a _ => a.1⟩, h1.2.2⟩
   clear hws
   go_wp2_with fail
   go_returns
   exact ⟨_, rfl, HWS.out.1, HWS.out.2⟩
  ·obtain ⟨m, hp⟩ : ∃ m, xs[k]? = some m := ⟨_, List.getElem?_eq_getElem (by omega)⟩
   obtain ⟨g, c', hA, -⟩ := Row.pos H.out.1.1 (by omega)
   injection hA with hA1 hA2 hA3
   subst hA1
   subst hA3
   obtain ⟨xa, xb, xc, x1, x2, x3, hsr⟩ := SReps.get H.out.2.1 (k := k) (s := polyS m) (by rw [List.getElem?_map, hp]; rfl)
   obtain ⟨sk, sl, sp, hag⟩ := hsr.agg
   obtain ⟨g1, g2, g3⟩ := agg3_inj hag
   subst g1
   subst g2
   subst g3
   have c1 := (H.out.1.kept (Kept.below hws.out.2.2)).cell (k * 3) x1
   have c2 := (H.out.1.kept (Kept.below hws.out.2.2)).cell (k * 3 + 1) x2
   have c3 := (H.out.1.kept (Kept.below hws.out.2.2)).cell (k * 3 + 2) x3
   have HP := Lib.hid (And.intro hp (And.intro (SRep.kept (Kept.below hws.out.2.2) _ _ hsr) (H.out.2.2 m (List.mem_of_getElem? hp))))
   have hglt : g < wr.heap.size := World.block_lt_of_cell? _ _ c1
   have hsz := hws.out.2.2.size
   clear hp hsr hag x1 x2 x3
   have hk0 : (0 : Int) <= (k : Int) := by omega
   have hk1 : (k : Int) < (xs.length : Int) := by omega
   have hk3 : (k : Int) + 1 <= 9223372036854775807 := by omega
   go_wp2_with fail
   obtain ⟨wb, hwb⟩ : ∃ wb, wr.alloc (Obj.cells #[.int .i64 sk, .slice sl.1 sl.2.1 sl.2.2, .slice sp.1 sp.2.1 sp.2.2] 26) = wb := ⟨_, rfl⟩
   have hbb : Below wr.heap.size wr wb := by rw [<- hwb]; exact (Below.refl _ _).alloc (Nat.le_refl _) _
   rw [hwb]
   refine (polygonOf_any ok wb 3 m [] _ (SRep.kept (Kept.below hbb) _ _ HP.out.2.1) HP.out.2.2.1 HP.out.2.2.2).mono ?_
   rintro e w1 ⟨u, rfl, hu, hb1⟩
   have hu0 := hu
   obtain ⟨us, hu1, -⟩ := hu0
   obtain ⟨uA, uc, rfl⟩ := Row.shape hu1.1
   clear hu1
   have hb1 : Below wr.heap.size wr w1 := hbb.trans (hb1.mono hbb.size)
   have hown1 := Row.below hws.out.1 hb1
   have hb0 := hws.out.2.2.trans (hb1.mono hsz)
   have hmem : All2 (LsK (Away w.heap.size (.slice oA k oc)) w1 86 47) (vs ++ [.slice uA m.length uc]) (xs.take (k + 1)) := by
    rw [take_next HP.out.1]
    exact ((rp_lss 86 47 vs (xs.take k)).below hws.out.2.1 hb1).snoc (hu.mono fun g hg _ => away_new hws.out.1 hsz g (Nat.le_trans hbb.size hg))
   have hsz1 := hb0.size
   have HM := Lib.hid (And.intro hmem hb0)
   clear hu hb1 hmem hb0 c1 c2 c3 hwb
   go_wp2_with (at_builtin; refine wpList_append_lies _ rfl (.tmp 72) (.tmp 75) 58 rfl w.heap.size 52 j0 (.slice none 0 0) 1 24 Tryz.underlying58 hj hy0 hy1 hy2 rfl (by decide) _ _ _ rfl (hown1.alloc _) ⟨w1.heap.size, 0, none⟩ 1 1 [.slice uA m.length uc] rfl rfl (one_new rfl) (one_cell rfl) (by omega) ?d3 ?d4 ?d5 _ rfl ?_)
   case d3 => unfold maxLen; omega
   case d4 => omega
   case d5 => first | omega | (simp; omega)
   intro g' c' w' hown' hgr hat hlt
   have HW' : Hid (w'.ownsRow w.heap.size 52 1 (.slice (some ⟨g', 0, none⟩) (k + 1) c') (k + 1) (vs ++ [.slice uA m.length uc]) /\ All2 (LsK (Away w.heap.size (.slice (some ⟨g', 0, none⟩) (k + 1) c')) w' 86 47) (vs ++ [.slice uA m.length uc]) (xs.take (k + 1)) /\ Below w.heap.size w w') := by
    have hm2 := (rp_lss 86 47 _ _).below HM.out.1 ((Below.refl _ _).alloc (Nat.le_refl _) (Obj.cells #[.slice uA m.length uc] 52))
    refine ⟨hown', (rp_lss 86 47 _ _).grown hm2 hgr (by rw [alloc_size]; exact hat), grown_below (hown1.alloc _) (below_alloc HM.out.2 _) ?_ hgr⟩
    have := (below_alloc HM.out.2 (Obj.cells #[.slice uA m.length uc] 52)).size
    exact this
   clear hown' hgr hat hlt hown1
   go_wp2_with fail
   go_roundg (gk - 1)
   case rel => exact ⟨k + 1, _, by omega, by omega, by go_num, HW'⟩
   case measure => omega
theorem geom_coll (ok : Nat -> Prop) (w : World) (v : Value) (gs : List Geo) (ih : ∀ (g : Geo) (v : Value) (w : World), g ∈ gs -> SRep ok w (shS g) v -> GSm g -> Calls Tryz.prog 8 #[v] w (GmPost w g)) (h : SRep ok w (.mk 7 [] (gs.map shS)) v) (hn : gs.length <= big) (hn2 : GSms gs) :
  Calls Tryz.prog 8 #[v] w (GmPost w (.coll gs)) := by
 obtain ⟨lv, pv, cs0, rfl, ⟨vs0, hr0, -⟩, hrow, hall⟩ := h
 rw [List.length_map] at hrow
 obtain ⟨lA, lc, rfl⟩ := Row.shape hr0.1
 obtain ⟨A, c, rfl⟩ := Row.shape hrow.1
 obtain ⟨j0, hj, hy0, hy1, hy2⟩ := info_parts info33
 have hn : gs.length <= 1000000000000 := hn
 have H := Lib.hid (And.intro hrow (And.intro hall hn2))
 have IH := Lib.hid ih
 clear hrow hall hr0 hn2 ih
 go_enter Tryz.func8, Tryz.ntmps8
 go_wp2_with fail
 go_loopg [9, 86] gs.length (fun n v3 v10 wr => GsR w gs n v3 v10 wr)
 case atStart => exact ⟨0, [], by omega, Nat.zero_le _, rfl, row_lit_at (w.alloc _) w.heap.size 33 1 0 _ [] (alloc_size _ _).symm (below_alloc (Below.refl _ _) _).size rfl (by unfold maxLen; omega), trivial, below_alloc (below_alloc (Below.refl _ _) _) _⟩
 case round =>
  obtain ⟨k, vs, hgk, hk, rfl, hws⟩ := hrel
  obtain ⟨oA, oc, rfl⟩ := Row.shape hws.out.1
  by_cases hkl : k = gs.length
  ·subst hkl
   have HWS : Hid (GRepK (fun g => w.heap.size <= g) wr (.coll gs) (.iface 60 (.slice oA gs.length oc)) /\ Below w.heap.size w wr) := by
    have h1 := hws.out
    rw [List.take_length] at h1
    exact ⟨⟨_, vs, rfl, RowK.of h1.1, GRepKs.mono (fun g a _ => a.1) _ _ h1.2.1⟩, h1.2.2⟩
   clear hws
   go_wp2_with fail
   go_returns
   exact ⟨_, rfl, HWS.out.1, HWS.out.2⟩
  ·obtain ⟨m, hp⟩ : ∃ m, gs[k]? = some m := ⟨_, List.getElem?_eq_getElem (by omega)⟩
   obtain ⟨g, c', hA, -⟩ := Row.pos H.out.1.1 (by omega)
   injection hA with hA1 hA2 hA3
   subst hA1
   subst hA3
   obtain ⟨xa, xb, xc, x1, x2, x3, hsr⟩ := SReps.get H.out.2.1 (k := k) (s := shS m) (by rw [List.getElem?_map, hp]; rfl)
   obtain ⟨sk, sl, sp, hag⟩ := hsr.agg
   obtain ⟨g1, g2, g3⟩ := agg3_inj hag
   subst g1
   subst g2
   subst g3
   have c1 := (H.out.1.kept (Kept.below hws.out.2.2)).cell (k * 3) x1
   have c2 := (H.out.1.kept (Kept.below hws.out.2.2)).cell (k * 3 + 1) x2
   have c3 := (H.out.1.kept (Kept.below hws.out.2.2)).cell (k * 3 + 2) x3
   have HP := Lib.hid (And.intro hp (And.intro (SRep.kept (Kept.below hws.out.2.2) _ _ hsr) (And.intro (GSms.get H.out.2.2 m (List.mem_of_getElem? hp)) (List.mem_of_getElem? hp))))
   have hglt : g < wr.heap.size := World.block_lt_of_cell? _ _ c1
   have hsz := hws.out.2.2.size
   clear hp hsr hag x1 x2 x3
   have hk0 : (0 : Int) <= (k : Int) := by omega
   have hk1 : (k : Int) < (gs.length : Int) := by omega
   have hk3 : (k : Int) + 1 <= 9223372036854775807 := by omega
   go_wp2_with fail
   obtain ⟨wb, hwb⟩ : ∃ wb, wr.alloc (Obj.cells #[.int .i64 sk, .slice sl.1 sl.2.1 sl.2.2, .slice sp.1 sp.2.1 sp.2.2] 26) = wb := ⟨_, rfl⟩
   have hbb : Below wr.heap.size wr wb := by rw [<- hwb]; exact (Below.refl _ _).alloc (Nat.le_refl _) _
   rw [hwb]
   refine (IH.out m _ wb HP.out.2.2.2 (SRep.kept (Kept.below hbb) _ _ HP.out.2.1) HP.out.2.2.1).mono ?_
   rintro e w1 ⟨u, rfl, hu, hb1⟩
   obtain ⟨tu, uu, rfl⟩ := (GRepK.toG _ _ hu).iface
   have hb1 : Below wr.heap.size wr w1 := hbb.trans (hb1.mono hbb.size)
   have hown1 := Row.below hws.out.1 hb1
   have hb0 := hws.out.2.2.trans (hb1.mono hsz)
   have hmem : GRepKs (Away w.heap.size (.slice oA k oc)) w1 (gs.take (k + 1)) (vs ++ [.iface tu uu]) := by
    rw [take_next HP.out.1]
    exact GRepKs.snoc (GRepK.mono (fun g hg _ => away_new hws.out.1 hsz g (Nat.le_trans hbb.size hg)) _ _ hu) _ _ ((rp_gs (gs.take k) vs).below hws.out.2.1 hb1)
   have hsz1 := hb0.size
   have HM := Lib.hid (And.intro hmem hb0)
   clear hu hb1 hmem hb0 c1 c2 c3 hwb
   go_wp2_with (at_builtin; refine wpList_append_lies _ rfl (.tmp 94) (.tmp 96) 60 rfl w.heap.size 33 j0 .nilIface 1 16 Tryz.underlying60 hj hy0 hy1 hy2 rfl (by decide) _ _ _ rfl (hown1.alloc _) ⟨w1.heap.size, 0, none⟩ 1 1 [.iface tu uu] rfl rfl (one_new rfl) (one_cell rfl) (by omega) ?d3 ?d4 ?d5 _ rfl ?_)
   case d3 => unfold maxLen; omega
   case d4 => omega
   case d5 => first | omega | (simp; omega)
   intro g' c' w' hown' hgr hat hlt
   have HW' : Hid (w'.ownsRow w.heap.size 33 1 (.slice (some ⟨g', 0, none⟩) (k + 1) c') (k + 1) (vs ++ [.iface tu uu]) /\ GRepKs (Away w.heap.size (.slice (some ⟨g', 0, none⟩) (k + 1) c')) w' (gs.take (k + 1)) (vs ++ [.iface tu uu]) /\ Below w.heap.size w w') := by
    have hm2 := (rp_gs _ _).below HM.out.1 ((Below.refl _ _).alloc (Nat.le_refl _) (Obj.cells #[.iface tu uu] 33))
    refine ⟨hown', (rp_gs _ _).grown hm2 hgr (by rw [alloc_size]; exact hat), grown_below (hown1.alloc _) (below_alloc HM.out.2 _) ?_ hgr⟩
    have := (below_alloc HM.out.2 (Obj.cells #[.iface tu uu] 33)).size
    exact this
   clear hown' hgr hat hlt hown1
   go_wp2_with fail
   go_roundg (gk - 1)
   case rel => exact ⟨k + 1, _, by omega, by omega, by go_num, HW'⟩
   case measure => omega
theorem geom_any (ok : Nat -> Prop) : ∀ (g : Geo) (v : Value) (w : World), SRep ok w (shS g) v -> GSm g -> Calls Tryz.prog 8 #[v] w (GmPost w g)
 | .point p, v, w, hr, hs => geom_point ok w v p hr
 | .line ps, v, w, hr, hs => geom_line ok w v ps hr hs
 | .poly rss, v, w, hr, hs => geom_poly ok w v rss hr hs.1 hs.2
 | .mpoint ps, v, w, hr, hs => geom_mpoint ok w v ps hr hs
 | .mline rss, v, w, hr, hs => geom_mline ok w v rss hr hs.1 hs.2
 | .mpoly xs, v, w, hr, hs => geom_mpoly ok w v xs hr hs.1 hs.2
 | .coll gs, v, w, hr, hs => by
  have hr' : SRep ok w (.mk 7 [] (shSs gs)) v := hr
  rw [shSs_eq] at hr'
  exact geom_coll ok w v gs (fun g v w hm hr hs => geom_any ok g v w hr hs) hr' hs.1 hs.2
termination_by g => SizeOf.sizeOf g
decreasing_by
 have := List.sizeOf_lt_of_mem hm
 simp
 omega
theorem sameBits_any (x : Nat) (w : World) : Calls Tryz.prog 60 #[.float .f64 x, .float .f64 x] w fun e w' => e = .returned (.bool true) /\ w' = w := by
 have hfb := fun n => run_mathbits n
 go_enter Tryz.func60, Tryz.ntmps60
 go_wp2_with fail
 go_returns
 exact ⟨by simp, rfl⟩
def SpRel (w : World) (n0 : Nat) (n : Nat) (v : Value) (wr : World) : Prop := ∃ k : Nat, n = n0 - k /\ k <= n0 /\ v = .int .i64 k /\ Hid (∃ m, wr = w.drewN m)
theorem samePoints_any (ok1 ok2 : Nat -> Prop) (w : World) (u1 u2 : Value) (ps : List (Nat × Nat)) (h1 : PtK ok1 w 38 u1 ps) (h2 : PtK ok2 w 38 u2 ps) :
  Calls Tryz.prog 32 #[u1, u2] w fun e w' => e = .returned (.bool true) /\ ∃ m, w' = w.drewN m := by
 obtain ⟨A, c, rfl⟩ := Row.shape h1.1
 obtain ⟨A2, c2, rfl⟩ := Row.shape h2.1
 have H := Lib.hid (And.intro h1 h2)
 clear h1 h2
 go_enter Tryz.func32, Tryz.ntmps32
 go_wp2_with fail
 go_loopg [13] ps.length (fun n v wr => SpRel w ps.length n v wr)
 case atStart => exact ⟨0, by omega, Nat.zero_le _, rfl, 0, rfl⟩
 case round =>
  obtain ⟨k, hgk, hk, rfl, hws⟩ := hrel
  have hkp : ∀ ok : Nat -> Prop, Kept ok w wr := by
   intro ok
   obtain ⟨m, rfl⟩ := hws.out
   exact fun _ _ _ => rfl
  by_cases hkl : k = ps.length
  ·subst hkl
   go_wp2_with fail
   go_returns
   exact ⟨rfl, hws.out⟩
  ·obtain ⟨p, hp⟩ : ∃ p, ps[k]? = some p := ⟨_, List.getElem?_eq_getElem (by omega)⟩
   obtain ⟨g, c', hA, -⟩ := Row.pos H.out.1.1 (by omega)
   injection hA with hA1 hA2 hA3
   subst hA1
   subst hA3
   obtain ⟨g2, c2', hB, -⟩ := Row.pos H.out.2.1 (by omega)
   injection hB with hB1 hB2 hB3
   subst hB1
   subst hB3
   obtain ⟨f1, f2⟩ := flat_get ps k p hp
   have d1 := (H.out.1.kept (hkp _)).cell (k * 2) f1
   have d2 := (H.out.1.kept (hkp _)).cell (k * 2 + 1) f2
   have d3 := (H.out.2.kept (hkp _)).cell (k * 2) f1
   have d4 := (H.out.2.kept (hkp _)).cell (k * 2 + 1) f2
   have hmx := row_max H.out.1.1
   have hk0 : (0 : Int) <= (k : Int) := by omega
   have hk1 : (k : Int) < (ps.length : Int) := by omega
   have hk3 : (k : Int) + 1 <= 9223372036854775807 := by omega
   clear hp f1 f2 hkp
   go_wp2_with fail
   go_quiet ((go_at_call 60; exact Calls.quiet_of_same (sameBits_any _ _)))
   go_wp2_with fail
   go_roundg (gk - 1)
   case rel => exact ⟨k + 1, by omega, by omega, by go_num, by obtain ⟨m, rfl⟩ := hws.out; exact ⟨m + nq, by simp⟩⟩
   case measure => omega
def Bx (w : World) (b : Nat) (x y z : Value) : Prop := w.heap[b]? = some (.cells #[x, y, z] 26 (0, 0))
theorem Bx.below {w w' : World} {b : Nat} {x y z : Value} (h : Bx w b x y z) (hb : Below w.heap.size w w') : Bx w' b x y z := (hb.block b (lt_of_heap h)).trans h
def SsRel (w : World) (b1 b2 : Nat) (x1 y1 z1 x2 y2 z2 : Value) (n0 : Nat) (n : Nat) (v : Value) (wr : World) : Prop := ∃ k : Nat, n = n0 - k /\ k <= n0 /\ v = .int .i64 k /\ Hid (Below w.heap.size w wr /\ Bx wr b1 x1 y1 z1 /\ Bx wr b2 x2 y2 z2)
theorem sameShape_step (ok1 ok2 : Nat -> Prop) (w : World) (v1 v2 : Value) (k0 : Nat) (rss : List (List (Nat × Nat))) (ss : List Shp)
  (ih : ∀ (s : Shp) (v1 v2 : Value) (w : World), s ∈ ss -> SRep ok1 w s v1 -> SRep ok2 w s v2 -> Calls Tryz.prog 13 #[v1, v2] w fun e w' => e = .returned (.bool true) /\ Below w.heap.size w w')
  (h1 : SRep ok1 w (.mk k0 rss ss) v1) (h2 : SRep ok2 w (.mk k0 rss ss) v2) :
  Calls Tryz.prog 13 #[v1, v2] w fun e w' => e = .returned (.bool true) /\ Below w.heap.size w w' := by
 obtain ⟨l1, p1, cs1, rfl, ⟨vs1, hl1, ha1⟩, hp1, hs1⟩ := h1
 obtain ⟨l2, p2, cs2, rfl, ⟨vs2, hl2, ha2⟩, hp2, hs2⟩ := h2
 obtain ⟨A1, c1, rfl⟩ := Row.shape hl1.1
 obtain ⟨A2, c2, rfl⟩ := Row.shape hl2.1
 obtain ⟨B1, d1, rfl⟩ := Row.shape hp1.1
 obtain ⟨B2, d2, rfl⟩ := Row.shape hp2.1
 have H1 := Lib.hid (And.intro hl1 (And.intro ha1 (And.intro hp1 hs1)))
 have H2 := Lib.hid (And.intro hl2 (And.intro ha2 (And.intro hp2 hs2)))
 have IH := Lib.hid ih
 clear hl1 ha1 hp1 hs1 hl2 ha2 hp2 hs2 ih
 obtain ⟨b1, hb1⟩ : ∃ b1, w.heap.size = b1 := ⟨_, rfl⟩
 obtain ⟨b2, hb2⟩ : ∃ b2, b1 + 1 = b2 := ⟨_, rfl⟩
 obtain ⟨wx, hwx⟩ : ∃ wx, (w.alloc (Obj.cells #[.int .i64 (k0 : Int), .slice A1 rss.length c1, .slice B1 ss.length d1] 26)).alloc (Obj.cells #[.int .i64 (k0 : Int), .slice A2 rss.length c2, .slice B2 ss.length d2] 26) = wx := ⟨_, rfl⟩
 have hx : Hid (Below w.heap.size w wx /\ Bx wx b1 (.int .i64 (k0 : Int)) (.slice A1 rss.length c1) (.slice B1 ss.length d1) /\ Bx wx b2 (.int .i64 (k0 : Int)) (.slice A2 rss.length c2) (.slice B2 ss.length d2)) := by
  rw [<- hwx]
  refine ⟨below_alloc (below_alloc (Below.refl _ _) _) _, ?_, ?_⟩
  ·rw [<- hb1]
   exact (Below.heap_alloc _ _ _ (by rw [alloc_size]; omega)).trans (heap_alloc_new w _)
  ·rw [<- hb2, <- hb1, <- alloc_size w (Obj.cells #[.int .i64 (k0 : Int), .slice A1 rss.length c1, .slice B1 ss.length d1] 26)]
   exact heap_alloc_new _ _
 obtain ⟨x1, x2, x3⟩ := three_cells hx.out.2.1
 obtain ⟨x4, x5, x6⟩ := three_cells hx.out.2.2
 go_enter Tryz.func13, Tryz.ntmps13
 go_wp2_with fail
 go_loopg [33] rss.length (fun n v wr => SsRel w b1 b2 (.int .i64 (k0 : Int)) (.slice A1 rss.length c1) (.slice B1 ss.length d1) (.int .i64 (k0 : Int)) (.slice A2 rss.length c2) (.slice B2 ss.length d2) rss.length n v wr)
 case atStart => exact ⟨0, by omega, Nat.zero_le _, rfl, hx⟩
 case round =>
  obtain ⟨k, hgk, hk, rfl, hws⟩ := hrel
  obtain ⟨e1, e2, e3⟩ := three_cells hws.out.2.1
  obtain ⟨e4, e5, e6⟩ := three_cells hws.out.2.2
  by_cases hkl : k = rss.length
  ·subst hkl
   go_wp2_with fail
   go_loopg [52] ss.length (fun n v wr => SsRel w b1 b2 (.int .i64 (k0 : Int)) (.slice A1 rss.length c1) (.slice B1 ss.length d1) (.int .i64 (k0 : Int)) (.slice A2 rss.length c2) (.slice B2 ss.length d2) ss.length n v wr)
   case atStart => exact ⟨0, by omega, Nat.zero_le _, rfl, hws⟩
   case round =>
    clear e1 e2 e3 e4 e5 e6 hws
    obtain ⟨k, hgk, hk, rfl, hws⟩ := hrel
    obtain ⟨e1, e2, e3⟩ := three_cells hws.out.2.1
    obtain ⟨e4, e5, e6⟩ := three_cells hws.out.2.2
    by_cases hkl : k = ss.length
    ·subst hkl
     go_wp2_with fail
     go_returns
     exact ⟨rfl, hws.out.1⟩
    ·obtain ⟨m, hp⟩ : ∃ m, ss[k]? = some m := ⟨_, List.getElem?_eq_getElem (by omega)⟩
     obtain ⟨g, c', hA, -⟩ := Row.pos H1.out.2.2.1.1 (by omega)
     injection hA with hA1 hA2 hA3
     subst hA1
     subst hA3
     obtain ⟨g2, c2', hB, -⟩ := Row.pos H2.out.2.2.1.1 (by omega)
     injection hB with hB1 hB2 hB3
     subst hB1
     subst hB3
     obtain ⟨xa, xb, xc, y1, y2, y3, hr1⟩ := SReps.get H1.out.2.2.2 hp
     obtain ⟨za, zb, zc, y4, y5, y6, hr2⟩ := SReps.get H2.out.2.2.2 hp
     obtain ⟨sk, sl, sp, hag⟩ := hr1.agg
     obtain ⟨rfl, rfl, rfl⟩ := agg3_inj hag
     obtain ⟨tk, tl, tp, hag2⟩ := hr2.agg
     obtain ⟨rfl, rfl, rfl⟩ := agg3_inj hag2
     have f1 := (H1.out.2.2.1.kept (Kept.below hws.out.1)).cell (k * 3) y1
     have f2 := (H1.out.2.2.1.kept (Kept.below hws.out.1)).cell (k * 3 + 1) y2
     have f3 := (H1.out.2.2.1.kept (Kept.below hws.out.1)).cell (k * 3 + 2) y3
     have f4 := (H2.out.2.2.1.kept (Kept.below hws.out.1)).cell (k * 3) y4
     have f5 := (H2.out.2.2.1.kept (Kept.below hws.out.1)).cell (k * 3 + 1) y5
     have f6 := (H2.out.2.2.1.kept (Kept.below hws.out.1)).cell (k * 3 + 2) y6
     have hkd : Kept ok1 w wr.drew := fun g a b => Kept.below hws.out.1 g a b
     have hkd2 : Kept ok2 w wr.drew := fun g a b => Kept.below hws.out.1 g a b
     have HP := Lib.hid (And.intro (SRep.kept hkd _ _ hr1) (And.intro (SRep.kept hkd2 _ _ hr2) (List.mem_of_getElem? hp)))
     have hmx := row_max H1.out.2.2.1.1
     have hk0 : (0 : Int) <= (k : Int) := by omega
     have hk1 : (k : Int) < (ss.length : Int) := by omega
     have hk3 : (k : Int) + 1 <= 9223372036854775807 := by omega
     clear hp y1 y2 y3 y4 y5 y6 hr1 hr2 hag hag2 x1 x2 x3 x4 x5 x6 hkd hkd2
     go_wp2_with fail
     go_region_held3 (fun w' => w'.cell? ⟨b1, 2, none⟩ = some (.slice (some ⟨g, 0, none⟩) ss.length d1) /\ w'.cell? ⟨b2, 2, none⟩ = some (.slice (some ⟨g2, 0, none⟩) ss.length d2) /\ w'.cell? ⟨g, k * 3, none⟩ = some (.int .i64 sk) /\ w'.cell? ⟨g, k * 3 + 1, none⟩ = some (.slice sl.1 sl.2.1 sl.2.2) /\ w'.cell? ⟨g, k * 3 + 2, none⟩ = some (.slice sp.1 sp.2.1 sp.2.2) /\ w'.cell? ⟨g2, k * 3, none⟩ = some (.int .i64 tk) /\ w'.cell? ⟨g2, k * 3 + 1, none⟩ = some (.slice tl.1 tl.2.1 tl.2.2) /\ w'.cell? ⟨g2, k * 3 + 2, none⟩ = some (.slice tp.1 tp.2.1 tp.2.2))
      (first | exact ⟨cell_later hb9 e3, cell_later hb9 e6, cell_later hb9 f1, cell_later hb9 f2, cell_later hb9 f3, cell_later hb9 f4, cell_later hb9 f5, cell_later hb9 f6⟩ | go_keep)
      ((first
       | (go_at_call 13; refine (IH.out m _ _ wr.drew HP.out.2.2 HP.out.1 HP.out.2.1).mono ?_; rintro e w9 ⟨rfl, hb9⟩; have hb9 : Below wr.heap.size wr w9 := (Below.refl _ _).drew.trans hb9)))
     have HB : Hid (Below w.heap.size w w9 /\ Bx w9 b1 (.int .i64 (k0 : Int)) (.slice A1 rss.length c1) (.slice (some ⟨g, 0, none⟩) ss.length d1) /\ Bx w9 b2 (.int .i64 (k0 : Int)) (.slice A2 rss.length c2) (.slice (some ⟨g2, 0, none⟩) ss.length d2)) :=
      ⟨hws.out.1.trans (hb9.mono hws.out.1.size), hws.out.2.1.below hb9, hws.out.2.2.below hb9⟩
     clear hb9 f1 f2 f3 f4 f5 f6 e1 e2 e3 e4 e5 e6
     go_wp2_with fail
     go_roundg (gk - 1)
     case rel => exact ⟨k + 1, by omega, by omega, by go_num, HB⟩
     case measure => omega
  ·obtain ⟨ps, hp⟩ : ∃ ps, rss[k]? = some ps := ⟨_, List.getElem?_eq_getElem (by omega)⟩
   obtain ⟨g, c', hA, -⟩ := Row.pos H1.out.1.1 (by omega)
   injection hA with hA1 hA2 hA3
   subst hA1
   subst hA3
   obtain ⟨g2, c2', hB, -⟩ := Row.pos H2.out.1.1 (by omega)
   injection hB with hB1 hB2 hB3
   subst hB1
   subst hB3
   obtain ⟨y1, hy1, hp1⟩ := All2.get' H1.out.2.1 hp
   obtain ⟨y2, hy2, hp2⟩ := All2.get' H2.out.2.1 hp
   obtain ⟨yA, yc, rfl⟩ := Row.shape hp1.1
   obtain ⟨zA, zc, rfl⟩ := Row.shape hp2.1
   have f1 := (H1.out.1.kept (Kept.below hws.out.1)).cell k hy1
   have f2 := (H2.out.1.kept (Kept.below hws.out.1)).cell k hy2
   have HP := Lib.hid (And.intro (hp1.kept (Kept.below hws.out.1)) (hp2.kept (Kept.below hws.out.1)))
   have hmx := row_max H1.out.1.1
   have hk0 : (0 : Int) <= (k : Int) := by omega
   have hk1 : (k : Int) < (rss.length : Int) := by omega
   have hk3 : (k : Int) + 1 <= 9223372036854775807 := by omega
   clear hp hy1 hy2 hp1 hp2
   go_wp2_with fail
   go_quiet ((go_at_call 32; refine Calls.quiet_of (samePoints_any ok1 ok2 _ _ _ ps (HP.out.1.kept (fun _ _ _ => rfl)) (HP.out.2.kept (fun _ _ _ => rfl)))))
   go_wp2_with fail
   go_roundg (gk - 1)
   case rel => exact ⟨k + 1, by omega, by omega, by go_num, hws.out.1.trans ⟨rfl, rfl, rfl, Nat.le_refl _, fun _ _ => rfl⟩, hws.out.2.1, hws.out.2.2⟩
   case measure => omega
theorem sameShape_any (ok1 ok2 : Nat -> Prop) : ∀ (s : Shp) (v1 v2 : Value) (w : World), SRep ok1 w s v1 -> SRep ok2 w s v2 -> Calls Tryz.prog 13 #[v1, v2] w fun e w' => e = .returned (.bool true) /\ Below w.heap.size w w'
 | .mk k rss ss, v1, v2, w, h1, h2 => sameShape_step ok1 ok2 w v1 v2 k rss ss (fun s v1 v2 w _hm h1 h2 => sameShape_any ok1 ok2 s v1 v2 w h1 h2) h1 h2
termination_by s => SizeOf.sizeOf s
decreasing_by
 have := List.sizeOf_lt_of_mem _hm
 simp
 omega
end Go.Proofs.YtdfolbmoohcblaaGreatDoor
