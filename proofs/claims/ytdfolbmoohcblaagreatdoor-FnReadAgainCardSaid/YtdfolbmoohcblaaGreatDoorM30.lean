/-
For FnReadAgain, part 30: W12c W12d W12e.
-/
import Derived.Test.YtdfolbmoohcblaaGreatDoorM29
set_option linter.all false
namespace Go.Proofs.YtdfolbmoohcblaaGreatDoor
set_option maxHeartbeats 4000000
set_option maxRecDepth 100000
open Go.RowKit
theorem mring2_any (b : Nat) (w0 : World) (hre : RE w0) (d : List (List UInt8)) (p : ByteArray) (w : World) (hI : RgI 52 86 b w0 d w) (hp : p.size <= 1099511627776) (hd : d.length <= 1099511627776) :
  Calls Tryz.prog 57 #[.string p, .pointer (some ⟨b, 0, none⟩)] w (fun e w' => YPost (RgI 52 86 b w0) RingF (fun w' => Below w0.heap.size w0 w') d (ls p) e w' /\ Keep w0.heap.size (fun t => t = 52 \/ t = 86) w w') := by
 obtain ⟨v, vs, rss, hc, hown, hpts, hall, hbel, hb⟩ := hI
 have hlen := hall.len
 rw [hlen] at hd
 clear hlen
 have hbk := trimSpaceBrackets_any p w hp (hre.below hbel).env
 obtain ⟨i0, hi, hz0, hz1, hz2⟩ := info_parts info47
 obtain ⟨j0, hj, hy0, hy1, hy2⟩ := info_parts info86
 have H := Lib.hid (And.intro hbk (And.intro hc (And.intro hown (And.intro hpts (And.intro hall (And.intro hbel hre))))))
 clear hbk hc hown hpts hall hbel hre
 go_enter Tryz.func57, Tryz.ntmps57
 go_wp2_with fail
 refine H.out.1.mono ?_
 rintro e w2 ⟨hb2, ⟨r, hr, rfl⟩ | ⟨hr, t, u, rfl⟩⟩
 ·have hrl := brk_len hr
  rw [ls_length] at hrl
  obtain ⟨q, hq⟩ : ∃ q, bs r = q := ⟨_, rfl⟩
  have hql : ls q = r := by rw [<- hq, ls_bs]
  have hqs : q.size <= p.size := by rw [<- ls_length q, hql]; omega
  rw [hq]
  have HQ := Lib.hid hql
  have HB := Lib.hid (And.intro hb2 hr)
  have hsz := hb2.size
  clear hq hql hrl hb2 hr
  go_wp2_with fail
  refine (commas_any q w2 (by omega)).mono ?_
  rintro e w3 ⟨⟨n, hn, rfl⟩, rfl⟩
  go_wp2_with (at_make; refine wpList_make_own _ rfl _ _ 86 rfl w2.heap.size 47 i0 (.agg #[.float .f64 0, .float .f64 0]) 2 Tryz.underlying86 hi hz0 hz1 _ _ _ (n + 1) rfl rfl (by omega) (by rw [hz2]; omega) (by unfold maxLen; omega) (Nat.le_refl _) ?_)
  intro w4 hown4 hgr
  have hg4 := below_grown hgr
  have HG : Hid (Below w2.heap.size w2 w4 /\ w4.ownsRow w2.heap.size 47 2 (.slice (some ⟨w2.heap.size, 0, none⟩) 0 (n + 1)) 0 []) := ⟨hg4, hown4⟩
  have HR2 : Hid (RE w2) := (H.out.2.2.2.2.2.2.below H.out.2.2.2.2.2.1).below HB.out.1
  clear hown4 hgr hg4
  go_wp2_with fail
  have hsp := splitOnComma_any q 58 ⟨w4.heap.size, 0, none⟩ (PtI 86 w4.heap.size w2 PtR) (fun l => ptP l = none) (fun w' => Below w2.heap.size w2 w') (w4.alloc (Obj.cells #[.slice (some ⟨w2.heap.size, 0, none⟩) 0 (n + 1)] 86)) (by omega) (fun _ _ => rfl)
   (fun d p w' hI hp hd => mringCl_any w4.heap.size w2 HR2.out d p w' hI (by omega) (by omega)) (pt_start HG.out.1 HG.out.2)
  have HS := Lib.hid hsp
  clear hsp
  refine HS.out.mono ?_
  rintro e w5 (⟨rfl, v5, ps, hc5, hown5, hall5, hbel5, hb5⟩ | ⟨t, u, rfl, hF, hJ⟩)
  ·obtain ⟨A5, c5, rfl⟩ := Row.shape hown5
   have hbw : Below w.heap.size w w5 := HB.out.1.trans (hbel5.mono hsz)
   have hcb5 : w5.cell? ⟨w4.heap.size, 0, none⟩ = some (.slice A5 ps.length c5) := by rw [Joins.cell_of_block hc5]; rfl
   have hc1 : w5.heap[b]? = some (.cells #[v] 52 (0, 0)) := by rw [hbw.block _ (Array.getElem?_eq_some_iff.1 H.out.2.1).1]; exact H.out.2.1
   have hown1 := Row.below H.out.2.2.1 hbw
   have hcb : w5.cell? ⟨b, 0, none⟩ = some v := by rw [Joins.cell_of_block hc1]; rfl
   have hbs : b < w5.heap.size := (Array.getElem?_eq_some_iff.1 hc1).1
   have hne : ¬ b = w5.heap.size := by omega
   have hne' : ¬ w5.heap.size = b := by omega
   have hsz5 : w0.heap.size <= w5.heap.size := Nat.le_trans H.out.2.2.2.2.2.1.size hbw.size
   have H5 : Hid (Below w.heap.size w w5 /\ w5.heap[b]? = some (.cells #[v] 52 (0, 0)) /\ Pts w0.heap.size w5 (.slice A5 ps.length c5) ps /\ RingR (ls p) ps) := ⟨hbw, hc1, owns_mono hown5 (Nat.le_trans H.out.2.2.2.2.2.1.size hsz), r, HB.out.2, by rw [<- HQ.out]; exact hall5⟩
   clear hc5 hown5 hall5 hbel5 hb5 hbw hc1
   go_wp2_with (at_builtin; refine wpList_append_own _ rfl (.tmp 26) (.tmp 28) 52 rfl w0.heap.size 86 j0 (.slice none 0 0) 1 24 Tryz.underlying52 hj hy0 hy1 hy2 rfl (by decide) _ _ _ rfl (hown1.alloc _) ⟨w5.heap.size, 0, none⟩ 1 1 [.slice A5 ps.length c5] rfl rfl ?c1 ?c2 ?c3 ?c4 ?c5 ?_)
   case c1 => exact one_new (by simp)
   case c2 => exact one_cell rfl
   case c3 => unfold maxLen; omega
   case c4 => omega
   case c5 => simp; omega
   intro v' w6 hown6 hgrow6 hnn
   have k2 : Keep w0.heap.size (fun t => t = 52 \/ t = 86) _ w6 := Keep.grown (S := fun t => t = 52 \/ t = 86) (hown1.alloc _) hgrow6 (.inr rfl)
   have k2' : Keep w0.heap.size (fun t => t = 86) _ w6 := Keep.grown (S := fun t => t = 86) (hown1.alloc _) hgrow6 rfl
   have k1 : Keep w0.heap.size (fun t => t = 52 \/ t = 86) w5 w6 := (Keep.alloc _).trans k2
   have hc6 : w6.heap[b]? = some (.cells #[v] 52 (0, 0)) := ((Keep.alloc _).trans k2').cells H5.out.2.1 (.inl (by decide))
   have hcb6 : w6.cell? ⟨b, 0, none⟩ = some v := by rw [Joins.cell_of_block hc6]; rfl
   have ufb6 : w6.frozen? ⟨b, 0, none⟩ = false := Joins.unfrozen_of_block hc6 0
   obtain ⟨vA, vc, rfl⟩ := Row.shape hown6
   have HE : Hid (RgI 52 86 b w0 (d ++ [ls p]) (w6.setCell ⟨b, 0, none⟩ (.slice vA (rss.length + 1) vc)) /\ Keep w0.heap.size (fun t => t = 52 \/ t = 86) w (w6.setCell ⟨b, 0, none⟩ (.slice vA (rss.length + 1) vc))) :=
    rg_next hb H.out.2.2.2.1 H.out.2.2.2.2.1 H.out.2.2.2.2.2.1 H5.out.1 H5.out.2.2.1 H5.out.2.2.2 k1 hc6 hown6 (by decide) (by decide) (by decide)
   clear hown6 hgrow6 hnn k1 k2 k2' hc6 hown1
   go_wp2_with fail
   go_returns
   exact ⟨.inl ⟨rfl, HE.out.1⟩, HE.out.2⟩
  ·have HE : Hid (RingF (ls p) /\ Below w.heap.size w w5) := ⟨.inr ⟨r, HB.out.2, by rw [<- HQ.out]; exact hF⟩, HB.out.1.trans (hJ.mono hsz)⟩
   clear hF hJ
   go_wp2_with fail
   go_returns
   exact ⟨.inr ⟨t, u, rfl, HE.out.1, H.out.2.2.2.2.2.1.trans (HE.out.2.mono H.out.2.2.2.2.2.1.size)⟩, Keep.ofBelow HE.out.2⟩
 ·have HJ := Lib.hid (And.intro hb2 hr)
  clear hb2 hr
  go_wp2_with fail
  go_returns
  exact ⟨.inr ⟨t, u, rfl, .inl HJ.out.2, H.out.2.2.2.2.2.1.trans (HJ.out.1.mono H.out.2.2.2.2.2.1.size)⟩, Keep.ofBelow HJ.out.1⟩
theorem mls2_any (b : Nat) (w0 : World) (hre : RE w0) (d : List (List UInt8)) (p : ByteArray) (w : World) (hI : RgI 56 50 b w0 d w) (hp : p.size <= 1099511627776) (hd : d.length <= 1099511627776) :
  Calls Tryz.prog 52 #[.string p, .pointer (some ⟨b, 0, none⟩)] w (fun e w' => YPost (RgI 56 50 b w0) RingF (fun w' => Below w0.heap.size w0 w') d (ls p) e w' /\ Keep w0.heap.size (fun t => t = 56 \/ t = 50) w w') := by
 obtain ⟨v, vs, rss, hc, hown, hpts, hall, hbel, hb⟩ := hI
 have hlen := hall.len
 rw [hlen] at hd
 clear hlen
 have hbk := trimSpaceBrackets_any p w hp (hre.below hbel).env
 obtain ⟨i0, hi, hz0, hz1, hz2⟩ := info_parts info47
 obtain ⟨j0, hj, hy0, hy1, hy2⟩ := info_parts info50
 have H := Lib.hid (And.intro hbk (And.intro hc (And.intro hown (And.intro hpts (And.intro hall (And.intro hbel hre))))))
 clear hbk hc hown hpts hall hbel hre
 go_enter Tryz.func52, Tryz.ntmps52
 go_wp2_with fail
 refine H.out.1.mono ?_
 rintro e w2 ⟨hb2, ⟨r, hr, rfl⟩ | ⟨hr, t, u, rfl⟩⟩
 ·have hrl := brk_len hr
  rw [ls_length] at hrl
  obtain ⟨q, hq⟩ : ∃ q, bs r = q := ⟨_, rfl⟩
  have hql : ls q = r := by rw [<- hq, ls_bs]
  have hqs : q.size <= p.size := by rw [<- ls_length q, hql]; omega
  rw [hq]
  have HQ := Lib.hid hql
  have HB := Lib.hid (And.intro hb2 hr)
  have hsz := hb2.size
  clear hq hql hrl hb2 hr
  go_wp2_with fail
  refine (commas_any q w2 (by omega)).mono ?_
  rintro e w3 ⟨⟨n, hn, rfl⟩, rfl⟩
  go_wp2_with (at_make; refine wpList_make_own _ rfl _ _ 50 rfl w2.heap.size 47 i0 (.agg #[.float .f64 0, .float .f64 0]) 2 Tryz.underlying50 hi hz0 hz1 _ _ _ (n + 1) rfl rfl (by omega) (by rw [hz2]; omega) (by unfold maxLen; omega) (Nat.le_refl _) ?_)
  intro w4 hown4 hgr
  have hg4 := below_grown hgr
  have HG : Hid (Below w2.heap.size w2 w4 /\ w4.ownsRow w2.heap.size 47 2 (.slice (some ⟨w2.heap.size, 0, none⟩) 0 (n + 1)) 0 []) := ⟨hg4, hown4⟩
  have HR2 : Hid (RE w2) := (H.out.2.2.2.2.2.2.below H.out.2.2.2.2.2.1).below HB.out.1
  clear hown4 hgr hg4
  go_wp2_with fail
  have hsp := splitOnComma_any q 53 ⟨w4.heap.size, 0, none⟩ (PtI 50 w4.heap.size w2 PtR) (fun l => ptP l = none) (fun w' => Below w2.heap.size w2 w') (w4.alloc (Obj.cells #[.slice (some ⟨w2.heap.size, 0, none⟩) 0 (n + 1)] 50)) (by omega) (fun _ _ => rfl)
   (fun d p w' hI hp hd => mlineCl_any w4.heap.size w2 HR2.out d p w' hI (by omega) (by omega)) (pt_start HG.out.1 HG.out.2)
  have HS := Lib.hid hsp
  clear hsp
  refine HS.out.mono ?_
  rintro e w5 (⟨rfl, v5, ps, hc5, hown5, hall5, hbel5, hb5⟩ | ⟨t, u, rfl, hF, hJ⟩)
  ·obtain ⟨A5, c5, rfl⟩ := Row.shape hown5
   have hbw : Below w.heap.size w w5 := HB.out.1.trans (hbel5.mono hsz)
   have hcb5 : w5.cell? ⟨w4.heap.size, 0, none⟩ = some (.slice A5 ps.length c5) := by rw [Joins.cell_of_block hc5]; rfl
   have hc1 : w5.heap[b]? = some (.cells #[v] 56 (0, 0)) := by rw [hbw.block _ (Array.getElem?_eq_some_iff.1 H.out.2.1).1]; exact H.out.2.1
   have hown1 := Row.below H.out.2.2.1 hbw
   have hcb : w5.cell? ⟨b, 0, none⟩ = some v := by rw [Joins.cell_of_block hc1]; rfl
   have hbs : b < w5.heap.size := (Array.getElem?_eq_some_iff.1 hc1).1
   have hne : ¬ b = w5.heap.size := by omega
   have hne' : ¬ w5.heap.size = b := by omega
   have hsz5 : w0.heap.size <= w5.heap.size := Nat.le_trans H.out.2.2.2.2.2.1.size hbw.size
   have H5 : Hid (Below w.heap.size w w5 /\ w5.heap[b]? = some (.cells #[v] 56 (0, 0)) /\ Pts w0.heap.size w5 (.slice A5 ps.length c5) ps /\ RingR (ls p) ps) := ⟨hbw, hc1, owns_mono hown5 (Nat.le_trans H.out.2.2.2.2.2.1.size hsz), r, HB.out.2, by rw [<- HQ.out]; exact hall5⟩
   clear hc5 hown5 hall5 hbel5 hb5 hbw hc1
   go_wp2_with (at_builtin; refine wpList_append_own _ rfl (.tmp 26) (.tmp 28) 56 rfl w0.heap.size 50 j0 (.slice none 0 0) 1 24 Tryz.underlying56 hj hy0 hy1 hy2 rfl (by decide) _ _ _ rfl (hown1.alloc _) ⟨w5.heap.size, 0, none⟩ 1 1 [.slice A5 ps.length c5] rfl rfl ?c1 ?c2 ?c3 ?c4 ?c5 ?_)
   case c1 => exact one_new (by simp)
   case c2 => exact one_cell rfl
   case c3 => unfold maxLen; omega
   case c4 => omega
   case c5 => simp; omega
   intro v' w6 hown6 hgrow6 hnn
   have k2 : Keep w0.heap.size (fun t => t = 56 \/ t = 50) _ w6 := Keep.grown (S := fun t => t = 56 \/ t = 50) (hown1.alloc _) hgrow6 (.inr rfl)
   have k2' : Keep w0.heap.size (fun t => t = 50) _ w6 := Keep.grown (S := fun t => t = 50) (hown1.alloc _) hgrow6 rfl
   have k1 : Keep w0.heap.size (fun t => t = 56 \/ t = 50) w5 w6 := (Keep.alloc _).trans k2
   have hc6 : w6.heap[b]? = some (.cells #[v] 56 (0, 0)) := ((Keep.alloc _).trans k2').cells H5.out.2.1 (.inl (by decide))
   have hcb6 : w6.cell? ⟨b, 0, none⟩ = some v := by rw [Joins.cell_of_block hc6]; rfl
   have ufb6 : w6.frozen? ⟨b, 0, none⟩ = false := Joins.unfrozen_of_block hc6 0
   obtain ⟨vA, vc, rfl⟩ := Row.shape hown6
   have HE : Hid (RgI 56 50 b w0 (d ++ [ls p]) (w6.setCell ⟨b, 0, none⟩ (.slice vA (rss.length + 1) vc)) /\ Keep w0.heap.size (fun t => t = 56 \/ t = 50) w (w6.setCell ⟨b, 0, none⟩ (.slice vA (rss.length + 1) vc))) :=
    rg_next hb H.out.2.2.2.1 H.out.2.2.2.2.1 H.out.2.2.2.2.2.1 H5.out.1 H5.out.2.2.1 H5.out.2.2.2 k1 hc6 hown6 (by decide) (by decide) (by decide)
   clear hown6 hgrow6 hnn k1 k2 k2' hc6 hown1
   go_wp2_with fail
   go_returns
   exact ⟨.inl ⟨rfl, HE.out.1⟩, HE.out.2⟩
  ·have HE : Hid (RingF (ls p) /\ Below w.heap.size w w5) := ⟨.inr ⟨r, HB.out.2, by rw [<- HQ.out]; exact hF⟩, HB.out.1.trans (hJ.mono hsz)⟩
   clear hF hJ
   go_wp2_with fail
   go_returns
   exact ⟨.inr ⟨t, u, rfl, HE.out.1, H.out.2.2.2.2.2.1.trans (HE.out.2.mono H.out.2.2.2.2.2.1.size)⟩, Keep.ofBelow HE.out.2⟩
 ·have HJ := Lib.hid (And.intro hb2 hr)
  clear hb2 hr
  go_wp2_with fail
  go_returns
  exact ⟨.inr ⟨t, u, rfl, .inl HJ.out.2, H.out.2.2.2.2.2.1.trans (HJ.out.1.mono H.out.2.2.2.2.2.1.size)⟩, Keep.ofBelow HJ.out.1⟩
def PolyR (dbl : Bool) (t : List UInt8) (rss : List (List (Nat × Nat))) : Prop := All2 RingR (pieces t dbl) rss
def PolyF (dbl : Bool) (t : List UInt8) : Prop := ∃ p ∈ pieces t dbl, RingF p
def txPoly : List UInt8 := [80, 79, 76, 89, 71, 79, 78, 32, 69, 77, 80, 84, 89]
def txMLine : List UInt8 := [77, 85, 76, 84, 73, 76, 73, 78, 69, 83, 84, 82, 73, 78, 71, 32, 69, 77, 80, 84, 89]
theorem rg_start {T E b : Nat} {w0 w1 w2 : World} {v v' : Value} (hb : w0.heap.size <= b) (hbel : Below w0.heap.size w0 w1) (hc : w1.heap[b]? = some (.cells #[v] T (0, 0))) (h12 : Below w1.heap.size w1 w2) (hown : w2.ownsRow w0.heap.size E 1 v' 0 []) (hTE : ¬ (E = T)) :
  RgI T E b w0 [] (w2.setCell ⟨b, 0, none⟩ v') /\ Keep w0.heap.size (fun t => t = T \/ t = E) w1 (w2.setCell ⟨b, 0, none⟩ v') := by
 have hc2 : w2.heap[b]? = some (.cells #[v] T (0, 0)) := by rw [h12.block _ (Array.getElem?_eq_some_iff.1 hc).1]; exact hc
 have hk : Keep w0.heap.size (fun t => t = T) w2 (w2.setCell ⟨b, 0, none⟩ v') := Keep.setCell (S := fun t => t = T) (a := ⟨b, 0, none⟩) hc2 hb rfl v'
 have hkw : Keep w0.heap.size (fun t => t = T \/ t = E) w1 (w2.setCell ⟨b, 0, none⟩ v') := (Keep.ofBelow h12).trans (hk.mono (Nat.le_refl _) (fun t h => .inl h))
 exact ⟨⟨v', [], [], by rw [Joins.block_setCell (i := 0) hc2]; rfl, Row.kept hown hk (.inr hTE), trivial, trivial, hbel.trans (hkw.below' hbel.size), hb⟩, hkw⟩
theorem polySet_any (b : Nat) (w0 w1 : World) (v : Value) (n : Int) (hn0 : 0 <= n) (hn : n <= 1099511627777) (hb : w0.heap.size <= b) (hbel : Below w0.heap.size w0 w1) (hc : w1.heap[b]? = some (.cells #[v] 52 (0, 0))) :
  Calls Tryz.prog 47 #[.int .i64 n, .pointer (some ⟨b, 0, none⟩)] w1 (fun e w' => e = .returned (.tuple #[]) /\ RgI 52 86 b w0 [] w' /\ Keep w0.heap.size (fun t => t = 52 \/ t = 86) w1 w') := by
 obtain ⟨m, hm⟩ : ∃ m : Nat, (m : Int) = n := ⟨n.toNat, by omega⟩
 subst hm
 obtain ⟨j0, hj, hy0, hy1, hy2⟩ := info_parts info86
 have hsz := hbel.size
 have H := Lib.hid (And.intro hb (And.intro hbel hc))
 clear hb hbel hc
 go_enter Tryz.func47, Tryz.ntmps47
 go_wp2_with (at_make; refine wpList_make_own _ rfl _ _ 52 rfl w0.heap.size 86 j0 (.slice none 0 0) 1 Tryz.underlying52 hj hy0 hy1 _ _ _ m rfl rfl rfl (by rw [hy2]; omega) (by unfold maxLen; omega) hsz ?_)
 intro w2 hown hgr
 have hg := below_grown hgr
 have hc2 : w2.heap[b]? = some (.cells #[v] 52 (0, 0)) := by rw [hg.block _ (Array.getElem?_eq_some_iff.1 H.out.2.2).1]; exact H.out.2.2
 have hcb : w2.cell? ⟨b, 0, none⟩ = some v := by rw [Joins.cell_of_block hc2]; rfl
 have ufb : w2.frozen? ⟨b, 0, none⟩ = false := Joins.unfrozen_of_block hc2 0
 have HE := Lib.hid (rg_start H.out.1 H.out.2.1 H.out.2.2 hg hown (by decide))
 clear hown hgr hg hc2
 go_wp2_with fail
 go_returns
 exact ⟨rfl, HE.out.1, HE.out.2⟩
theorem mlsSet_any (b : Nat) (w0 w1 : World) (v : Value) (n : Int) (hn0 : 0 <= n) (hn : n <= 1099511627777) (hb : w0.heap.size <= b) (hbel : Below w0.heap.size w0 w1) (hc : w1.heap[b]? = some (.cells #[v] 56 (0, 0))) :
  Calls Tryz.prog 51 #[.int .i64 n, .pointer (some ⟨b, 0, none⟩)] w1 (fun e w' => e = .returned (.tuple #[]) /\ RgI 56 50 b w0 [] w' /\ Keep w0.heap.size (fun t => t = 56 \/ t = 50) w1 w') := by
 obtain ⟨m, hm⟩ : ∃ m : Nat, (m : Int) = n := ⟨n.toNat, by omega⟩
 subst hm
 obtain ⟨j0, hj, hy0, hy1, hy2⟩ := info_parts info50
 have hsz := hbel.size
 have H := Lib.hid (And.intro hb (And.intro hbel hc))
 clear hb hbel hc
 go_enter Tryz.func51, Tryz.ntmps51
 go_wp2_with (at_make; refine wpList_make_own _ rfl _ _ 56 rfl w0.heap.size 50 j0 (.slice none 0 0) 1 Tryz.underlying56 hj hy0 hy1 _ _ _ m rfl rfl rfl (by rw [hy2]; omega) (by unfold maxLen; omega) hsz ?_)
 intro w2 hown hgr
 have hg := below_grown hgr
 have hc2 : w2.heap[b]? = some (.cells #[v] 56 (0, 0)) := by rw [hg.block _ (Array.getElem?_eq_some_iff.1 H.out.2.2).1]; exact H.out.2.2
 have hcb : w2.cell? ⟨b, 0, none⟩ = some v := by rw [Joins.cell_of_block hc2]; rfl
 have ufb : w2.frozen? ⟨b, 0, none⟩ = false := Joins.unfrozen_of_block hc2 0
 have HE := Lib.hid (rg_start H.out.1 H.out.2.1 H.out.2.2 hg hown (by decide))
 clear hown hgr hg hc2
 go_wp2_with fail
 go_returns
 exact ⟨rfl, HE.out.1, HE.out.2⟩
theorem mpolySet2_any (b : Nat) (w0 w1 : World) (v : Value) (n : Int) (hn0 : 0 <= n) (hn : n <= 1099511627777) (hb : w0.heap.size <= b) (hbel : Below w0.heap.size w0 w1) (hc : w1.heap[b]? = some (.cells #[v] 52 (0, 0))) :
  Calls Tryz.prog 56 #[.int .i64 n, .pointer (some ⟨b, 0, none⟩)] w1 (fun e w' => e = .returned (.tuple #[]) /\ RgI 52 86 b w0 [] w' /\ Keep w0.heap.size (fun t => t = 52 \/ t = 86) w1 w') := by
 obtain ⟨m, hm⟩ : ∃ m : Nat, (m : Int) = n := ⟨n.toNat, by omega⟩
 subst hm
 obtain ⟨j0, hj, hy0, hy1, hy2⟩ := info_parts info86
 have hsz := hbel.size
 have H := Lib.hid (And.intro hb (And.intro hbel hc))
 clear hb hbel hc
 go_enter Tryz.func56, Tryz.ntmps56
 go_wp2_with (at_make; refine wpList_make_own _ rfl _ _ 52 rfl w0.heap.size 86 j0 (.slice none 0 0) 1 Tryz.underlying52 hj hy0 hy1 _ _ _ m rfl rfl rfl (by rw [hy2]; omega) (by unfold maxLen; omega) hsz ?_)
 intro w2 hown hgr
 have hg := below_grown hgr
 have hc2 : w2.heap[b]? = some (.cells #[v] 52 (0, 0)) := by rw [hg.block _ (Array.getElem?_eq_some_iff.1 H.out.2.2).1]; exact H.out.2.2
 have hcb : w2.cell? ⟨b, 0, none⟩ = some v := by rw [Joins.cell_of_block hc2]; rfl
 have ufb : w2.frozen? ⟨b, 0, none⟩ = false := Joins.unfrozen_of_block hc2 0
 have HE := Lib.hid (rg_start H.out.1 H.out.2.1 H.out.2.2 hg hown (by decide))
 clear hown hgr hg hc2
 go_wp2_with fail
 go_returns
 exact ⟨rfl, HE.out.1, HE.out.2⟩
theorem uPoly_any (s : ByteArray) (w : World) (hs : s.size <= 1099511627776) (h10 : 7 <= s.size) (hre : RE w) :
  Calls Tryz.prog 25 #[.string s] w (RdPost (Rws w.heap.size 86) (Whole txPoly 7 (PolyR false)) (WholeBad txPoly 7 (PolyF false)) (ls s) w) := by
 have hef := EqualFold_any s { data := #[80, 79, 76, 89, 71, 79, 78, 32, 69, 77, 80, 84, 89] } w hs (by decide) (by decide) hre.fold
 have H := Lib.hid (And.intro hef hre)
 clear hef hre
 have hx : ls (s.extract 7 s.size) = (ls s).drop 7 := by rw [ls_extract, List.take_of_length_le (by simp [ls_length])]
 have HX := Lib.hid hx
 clear hx
 go_enter Tryz.func25, Tryz.ntmps25
 go_wp2_with fail
 refine H.out.1.mono ?_
 rintro e w1 ⟨hb1, b, rfl, hfe⟩
 have HF : Hid (Below w.heap.size w w1 /\ (low128 (ls s) = true -> foldEq (ls s) txPoly = b)) := ⟨hb1, fun h => (hfe h).symm⟩
 clear hb1 hfe
 cases b
 ·go_wp2_with fail
  refine (trimSpaceBrackets_any (s.extract 7 s.size) w1 (by rw [ByteArray.size_extract]; omega) (H.out.2.below HF.out.1).env).mono ?_
  rintro e w2 ⟨hb2, ⟨r, hr, rfl⟩ | ⟨hr, t, v, rfl⟩⟩
  ·have hrl := brk_len hr
   rw [ls_length, ByteArray.size_extract] at hrl
   rw [HX.out] at hr
   have HB : Hid (Below w.heap.size w w2 /\ brk ((ls s).drop 7) = some r) := ⟨HF.out.1.trans (hb2.mono HF.out.1.size), hr⟩
   clear hb2 hr
   obtain ⟨q, hq⟩ : ∃ q, bs r = q := ⟨_, rfl⟩
   have hql : ls q = r := by rw [<- hq, ls_bs]
   have hqs : q.size <= s.size := by rw [<- ls_length q, hql]; omega
   rw [hq]
   have HQ := Lib.hid hql
   clear hq hql hrl
   have hsz := HB.out.1.size
   go_wp2_with fail
   have hsp := splitRegexp_any q false 47 48 ⟨w2.heap.size, 0, none⟩ ⟨w2.heap.size, 0, none⟩ w.heap.size (fun t => t = 52 \/ t = 86) (RgI 52 86 w2.heap.size w) RingF (fun w' => Below w.heap.size w w') (w2.alloc (Obj.cells #[.slice none 0 0] 52)) (by omega) (by decide) (by decide) (fun _ _ => rfl) (fun _ _ => rfl)
    (fun n w3 hb3 hn0 hn => polySet_any w2.heap.size w w3 (.slice none 0 0) n hn0 (by omega) hsz ((below_alloc HB.out.1 _).trans (hb3.mono (below_alloc HB.out.1 _).size)) (by rw [hb3.block _ (by simp)]; exact heap_alloc_new w2 _))
    (fun d p w' hI hp hd => ring2_any w2.heap.size w H.out.2 d p w' hI (by omega) (by omega))
   have HS := Lib.hid hsp
   clear hsp
   refine HS.out.mono ?_
   rintro e w5 (⟨rfl, v, vs, rss, hc, hown, hpts, hall, hbel, -⟩ | ⟨t, u, rfl, hF, hJ⟩)
   ·have hcb : w5.cell? ⟨w2.heap.size, 0, none⟩ = some v := by rw [Joins.cell_of_block hc]; rfl
    obtain ⟨vA, vc, rfl⟩ := Row.shape hown
    have HE := Lib.hid (And.intro hown (And.intro hpts (And.intro hall hbel)))
    clear hc hown hpts hall hbel
    go_wp2_with fail
    go_returns
    exact ⟨HE.out.2.2.2, .inl ⟨_, rss, rfl, ⟨vs, HE.out.1, HE.out.2.1⟩, .inr ⟨HF.out.2, r, HB.out.2, by rw [<- HQ.out]; exact HE.out.2.2.1⟩⟩⟩
   ·have HE := Lib.hid (And.intro hF hJ)
    clear hF hJ
    go_wp2_with fail
    go_returns
    exact ⟨HE.out.2, .inr ⟨_, t, u, rfl, HF.out.2, .inr ⟨r, HB.out.2, by rw [<- HQ.out]; exact HE.out.1⟩⟩⟩
  ·have HB : Hid (Below w.heap.size w w2 /\ brk ((ls s).drop 7) = none) := ⟨HF.out.1.trans (hb2.mono HF.out.1.size), by rw [<- HX.out]; exact hr⟩
   clear hb2 hr
   go_wp2_with fail
   go_returns
   exact ⟨HB.out.1, .inr ⟨_, t, v, rfl, HF.out.2, .inl HB.out.2⟩⟩
 ·go_wp2_with fail
  go_returns
  exact ⟨below_alloc HF.out.1 _, .inl ⟨_, [], rfl, ⟨[], row_lit w1 w.heap.size 86 1 0 [] HF.out.1.size rfl (by unfold maxLen; omega), trivial⟩, .inl ⟨HF.out.2, rfl⟩⟩⟩
theorem uMLine_any (s : ByteArray) (w : World) (hs : s.size <= 1099511627776) (h10 : 15 <= s.size) (hre : RE w) :
  Calls Tryz.prog 27 #[.string s] w (RdPost (Rws w.heap.size 50) (Whole txMLine 15 (PolyR false)) (WholeBad txMLine 15 (PolyF false)) (ls s) w) := by
 have hef := EqualFold_any s { data := #[77, 85, 76, 84, 73, 76, 73, 78, 69, 83, 84, 82, 73, 78, 71, 32, 69, 77, 80, 84, 89] } w hs (by decide) (by decide) hre.fold
 have H := Lib.hid (And.intro hef hre)
 clear hef hre
 have hx : ls (s.extract 15 s.size) = (ls s).drop 15 := by rw [ls_extract, List.take_of_length_le (by simp [ls_length])]
 have HX := Lib.hid hx
 clear hx
 go_enter Tryz.func27, Tryz.ntmps27
 go_wp2_with fail
 refine H.out.1.mono ?_
 rintro e w1 ⟨hb1, b, rfl, hfe⟩
 have HF : Hid (Below w.heap.size w w1 /\ (low128 (ls s) = true -> foldEq (ls s) txMLine = b)) := ⟨hb1, fun h => (hfe h).symm⟩
 clear hb1 hfe
 cases b
 ·go_wp2_with fail
  refine (trimSpaceBrackets_any (s.extract 15 s.size) w1 (by rw [ByteArray.size_extract]; omega) (H.out.2.below HF.out.1).env).mono ?_
  rintro e w2 ⟨hb2, ⟨r, hr, rfl⟩ | ⟨hr, t, v, rfl⟩⟩
  ·have hrl := brk_len hr
   rw [ls_length, ByteArray.size_extract] at hrl
   rw [HX.out] at hr
   have HB : Hid (Below w.heap.size w w2 /\ brk ((ls s).drop 15) = some r) := ⟨HF.out.1.trans (hb2.mono HF.out.1.size), hr⟩
   clear hb2 hr
   obtain ⟨q, hq⟩ : ∃ q, bs r = q := ⟨_, rfl⟩
   have hql : ls q = r := by rw [<- hq, ls_bs]
   have hqs : q.size <= s.size := by rw [<- ls_length q, hql]; omega
   rw [hq]
   have HQ := Lib.hid hql
   clear hq hql hrl
   have hsz := HB.out.1.size
   go_wp2_with fail
   have hsp := splitRegexp_any q false 51 52 ⟨w2.heap.size, 0, none⟩ ⟨w2.heap.size, 0, none⟩ w.heap.size (fun t => t = 56 \/ t = 50) (RgI 56 50 w2.heap.size w) RingF (fun w' => Below w.heap.size w w') (w2.alloc (Obj.cells #[.slice none 0 0] 56)) (by omega) (by decide) (by decide) (fun _ _ => rfl) (fun _ _ => rfl)
    (fun n w3 hb3 hn0 hn => mlsSet_any w2.heap.size w w3 (.slice none 0 0) n hn0 (by omega) hsz ((below_alloc HB.out.1 _).trans (hb3.mono (below_alloc HB.out.1 _).size)) (by rw [hb3.block _ (by simp)]; exact heap_alloc_new w2 _))
    (fun d p w' hI hp hd => mls2_any w2.heap.size w H.out.2 d p w' hI (by omega) (by omega))
   have HS := Lib.hid hsp
   clear hsp
   refine HS.out.mono ?_
   rintro e w5 (⟨rfl, v, vs, rss, hc, hown, hpts, hall, hbel, -⟩ | ⟨t, u, rfl, hF, hJ⟩)
   ·have hcb : w5.cell? ⟨w2.heap.size, 0, none⟩ = some v := by rw [Joins.cell_of_block hc]; rfl
    obtain ⟨vA, vc, rfl⟩ := Row.shape hown
    have HE := Lib.hid (And.intro hown (And.intro hpts (And.intro hall hbel)))
    clear hc hown hpts hall hbel
    go_wp2_with fail
    go_returns
    exact ⟨HE.out.2.2.2, .inl ⟨_, rss, rfl, ⟨vs, HE.out.1, HE.out.2.1⟩, .inr ⟨HF.out.2, r, HB.out.2, by rw [<- HQ.out]; exact HE.out.2.2.1⟩⟩⟩
   ·have HE := Lib.hid (And.intro hF hJ)
    clear hF hJ
    go_wp2_with fail
    go_returns
    exact ⟨HE.out.2, .inr ⟨_, t, u, rfl, HF.out.2, .inr ⟨r, HB.out.2, by rw [<- HQ.out]; exact HE.out.1⟩⟩⟩
  ·have HB : Hid (Below w.heap.size w w2 /\ brk ((ls s).drop 15) = none) := ⟨HF.out.1.trans (hb2.mono HF.out.1.size), by rw [<- HX.out]; exact hr⟩
   clear hb2 hr
   go_wp2_with fail
   go_returns
   exact ⟨HB.out.1, .inr ⟨_, t, v, rfl, HF.out.2, .inl HB.out.2⟩⟩
 ·go_wp2_with fail
  go_returns
  exact ⟨below_alloc HF.out.1 _, .inl ⟨_, [], rfl, ⟨[], row_lit w1 w.heap.size 50 1 0 [] HF.out.1.size rfl (by unfold maxLen; omega), trivial⟩, .inl ⟨HF.out.2, rfl⟩⟩⟩
theorem Rws.kept {B E base : Nat} {S : Nat -> Prop} {w w' : World} {v : Value} {rss : List (List (Nat × Nat))} (h : Rws B E w v rss) (hk : Keep base S w w') (h47 : ¬ S 47) (hE : ¬ S E) : Rws B E w' v rss := by
 obtain ⟨vs, h1, h2⟩ := h
 exact ⟨vs, Row.kept h1 hk (.inr hE), h2.imp fun a c hac => Pts.kept hac hk h47⟩
theorem Rws.below {B E : Nat} {w w' : World} {v : Value} {rss : List (List (Nat × Nat))} (h : Rws B E w v rss) (hb : Below w.heap.size w w') : Rws B E w' v rss := by
 obtain ⟨vs, h1, h2⟩ := h
 exact ⟨vs, Row.below h1 hb, h2.imp fun a c hac => Pts.below hac hb⟩
theorem Rws.mono {B B' E : Nat} {w : World} {v : Value} {rss : List (List (Nat × Nat))} (h : Rws B E w v rss) (hB : B' <= B) : Rws B' E w v rss := by
 obtain ⟨vs, h1, h2⟩ := h
 exact ⟨vs, owns_mono h1 hB, h2.imp fun a c hac => owns_mono hac hB⟩
def Pls (B : Nat) (w : World) (v : Value) (xs : List (List (List (Nat × Nat)))) : Prop := ∃ vs, w.ownsRow B 52 1 v xs.length vs /\ All2 (Rws B 86 w) vs xs
def PolyIn (l : List UInt8) (rss : List (List (Nat × Nat))) : Prop := ∃ t, brk l = some t /\ PolyR false t rss
def PolyInF (l : List UInt8) : Prop := brk l = none \/ ∃ t, brk l = some t /\ PolyF false t
def MPolyR (t : List UInt8) (xs : List (List (List (Nat × Nat)))) : Prop := All2 PolyIn (pieces t true) xs
def MPolyF (t : List UInt8) : Prop := ∃ p ∈ pieces t true, PolyInF p
def txMPoly : List UInt8 := [77, 85, 76, 84, 73, 80, 79, 76, 89, 71, 79, 78, 32, 69, 77, 80, 84, 89]
def MgI (b : Nat) (w0 : World) (d : List (List UInt8)) (w : World) : Prop :=
 ∃ v vs xs, w.heap[b]? = some (.cells #[v] 58 (0, 0)) /\ w.ownsRow w0.heap.size 52 1 v xs.length vs /\ All2 (Rws w0.heap.size 86 w) vs xs /\ All2 PolyIn d xs /\ Below w0.heap.size w0 w /\ w0.heap.size <= b
theorem info52 : (Tryz.prog.info? 52).map (fun i => (i.zero, i.size, i.bytes)) = some (some (.slice none 0 0), 1, 24) := by kernel_rfl
theorem mg_next {b : Nat} {w0 w w5 w6 : World} {d : List (List UInt8)} {vs : List Value} {xs : List (List (List (Nat × Nat)))} {p : List UInt8} {rss : List (List (Nat × Nat))} {v v' v5 : Value} (hb : w0.heap.size <= b) (hpts : All2 (Rws w0.heap.size 86 w) vs xs) (hall : All2 PolyIn d xs) (hbel : Below w0.heap.size w0 w)
  (hbw : Below w.heap.size w w5) (hp5 : Rws w0.heap.size 86 w5 v5 rss) (hr : PolyIn p rss) (k1 : Keep w0.heap.size (fun t => t = 58 \/ t = 52) w5 w6) (hc : w6.heap[b]? = some (.cells #[v] 58 (0, 0)))
  (hown : w6.ownsRow w0.heap.size 52 1 v' (xs.length + 1) (vs ++ [v5])) :
  MgI b w0 (d ++ [p]) (w6.setCell ⟨b, 0, none⟩ v') /\ Keep w0.heap.size (fun t => t = 58 \/ t = 52) w (w6.setCell ⟨b, 0, none⟩ v') := by
 have hk : Keep w0.heap.size (fun t => t = 58) w6 (w6.setCell ⟨b, 0, none⟩ v') := Keep.setCell (S := fun t => t = 58) (a := ⟨b, 0, none⟩) hc hb rfl v'
 have hk2 : Keep w0.heap.size (fun t => t = 58 \/ t = 52) w5 (w6.setCell ⟨b, 0, none⟩ v') := k1.trans (hk.mono (Nat.le_refl _) (fun t h => .inl h))
 have hkw : Keep w0.heap.size (fun t => t = 58 \/ t = 52) w (w6.setCell ⟨b, 0, none⟩ v') := (Keep.ofBelow hbw).trans hk2
 refine ⟨⟨v', vs ++ [v5], xs ++ [rss], ?_, ?_, ?_, hall.snoc hr, hbel.trans (hkw.below' hbel.size), hb⟩, hkw⟩
 ·rw [Joins.block_setCell (i := 0) hc]; rfl
 ·rw [List.length_append]; exact Row.kept hown hk (.inr (by decide))
 ·exact (hpts.imp fun a c hac => Rws.kept hac hkw (by decide) (by decide)).snoc (Rws.kept hp5 hk2 (by decide) (by decide))
theorem mg_start {b : Nat} {w0 w1 w2 : World} {v v' : Value} (hb : w0.heap.size <= b) (hbel : Below w0.heap.size w0 w1) (hc : w1.heap[b]? = some (.cells #[v] 58 (0, 0))) (h12 : Below w1.heap.size w1 w2) (hown : w2.ownsRow w0.heap.size 52 1 v' 0 []) :
  MgI b w0 [] (w2.setCell ⟨b, 0, none⟩ v') /\ Keep w0.heap.size (fun t => t = 58 \/ t = 52) w1 (w2.setCell ⟨b, 0, none⟩ v') := by
 have hc2 : w2.heap[b]? = some (.cells #[v] 58 (0, 0)) := by rw [h12.block _ (Array.getElem?_eq_some_iff.1 hc).1]; exact hc
 have hk : Keep w0.heap.size (fun t => t = 58) w2 (w2.setCell ⟨b, 0, none⟩ v') := Keep.setCell (S := fun t => t = 58) (a := ⟨b, 0, none⟩) hc2 hb rfl v'
 have hkw : Keep w0.heap.size (fun t => t = 58 \/ t = 52) w1 (w2.setCell ⟨b, 0, none⟩ v') := (Keep.ofBelow h12).trans (hk.mono (Nat.le_refl _) (fun t h => .inl h))
 exact ⟨⟨v', [], [], by rw [Joins.block_setCell (i := 0) hc2]; rfl, Row.kept hown hk (.inr (by decide)), trivial, trivial, hbel.trans (hkw.below' hbel.size), hb⟩, hkw⟩
theorem mpolySet_any (b : Nat) (w0 w1 : World) (v : Value) (n : Int) (hn0 : 0 <= n) (hn : n <= 1099511627777) (hb : w0.heap.size <= b) (hbel : Below w0.heap.size w0 w1) (hc : w1.heap[b]? = some (.cells #[v] 58 (0, 0))) :
  Calls Tryz.prog 54 #[.int .i64 n, .pointer (some ⟨b, 0, none⟩)] w1 (fun e w' => e = .returned (.tuple #[]) /\ MgI b w0 [] w' /\ Keep w0.heap.size (fun t => t = 58 \/ t = 52) w1 w') := by
 obtain ⟨m, hm⟩ : ∃ m : Nat, (m : Int) = n := ⟨n.toNat, by omega⟩
 subst hm
 obtain ⟨j0, hj, hy0, hy1, hy2⟩ := info_parts info52
 have hsz := hbel.size
 have H := Lib.hid (And.intro hb (And.intro hbel hc))
 clear hb hbel hc
 go_enter Tryz.func54, Tryz.ntmps54
 go_wp2_with (at_make; refine wpList_make_own _ rfl _ _ 58 rfl w0.heap.size 52 j0 (.slice none 0 0) 1 Tryz.underlying58 hj hy0 hy1 _ _ _ m rfl rfl rfl (by rw [hy2]; omega) (by unfold maxLen; omega) hsz ?_)
 intro w2 hown hgr
 have hg := below_grown hgr
 have hc2 : w2.heap[b]? = some (.cells #[v] 58 (0, 0)) := by rw [hg.block _ (Array.getElem?_eq_some_iff.1 H.out.2.2).1]; exact H.out.2.2
 have hcb : w2.cell? ⟨b, 0, none⟩ = some v := by rw [Joins.cell_of_block hc2]; rfl
 have ufb : w2.frozen? ⟨b, 0, none⟩ = false := Joins.unfrozen_of_block hc2 0
 have HE := Lib.hid (mg_start H.out.1 H.out.2.1 H.out.2.2 hg hown)
 clear hown hgr hg hc2
 go_wp2_with fail
 go_returns
 exact ⟨rfl, HE.out.1, HE.out.2⟩
theorem mpoly2_any (b : Nat) (w0 : World) (hre : RE w0) (d : List (List UInt8)) (p : ByteArray) (w : World) (hI : MgI b w0 d w) (hp : p.size <= 1099511627776) (hd : d.length <= 1099511627776) :
  Calls Tryz.prog 55 #[.string p, .pointer (some ⟨b, 0, none⟩)] w (fun e w' => YPost (MgI b w0) PolyInF (fun w' => Below w0.heap.size w0 w') d (ls p) e w' /\ Keep w0.heap.size (fun t => t = 58 \/ t = 52) w w') := by
 obtain ⟨v, vs, xs, hc, hown, hpts, hall, hbel, hb⟩ := hI
 have hlen := hall.len
 rw [hlen] at hd
 clear hlen
 have hbk := trimSpaceBrackets_any p w hp (hre.below hbel).env
 obtain ⟨j0, hj, hy0, hy1, hy2⟩ := info_parts info52
 have H := Lib.hid (And.intro hbk (And.intro hc (And.intro hown (And.intro hpts (And.intro hall (And.intro hbel hre))))))
 clear hbk hc hown hpts hall hbel hre
 go_enter Tryz.func55, Tryz.ntmps55
 go_wp2_with fail
 refine H.out.1.mono ?_
 rintro e w2 ⟨hb2, ⟨r, hr, rfl⟩ | ⟨hr, t, u, rfl⟩⟩
 ·have hrl := brk_len hr
  rw [ls_length] at hrl
  obtain ⟨q, hq⟩ : ∃ q, bs r = q := ⟨_, rfl⟩
  have hql : ls q = r := by rw [<- hq, ls_bs]
  have hqs : q.size <= p.size := by rw [<- ls_length q, hql]; omega
  rw [hq]
  have HQ := Lib.hid hql
  have HB := Lib.hid (And.intro hb2 hr)
  have hsz := hb2.size
  have HR2 : Hid (RE w2) := (H.out.2.2.2.2.2.2.below H.out.2.2.2.2.2.1).below HB.out.1
  clear hq hql hrl hb2 hr
  go_wp2_with fail
  have hsp := splitRegexp_any q false 56 57 ⟨w2.heap.size, 0, none⟩ ⟨w2.heap.size, 0, none⟩ w2.heap.size (fun t => t = 52 \/ t = 86) (RgI 52 86 w2.heap.size w2) RingF (fun w' => Below w2.heap.size w2 w') (w2.alloc (Obj.cells #[.slice none 0 0] 52)) (by omega) (by decide) (by decide) (fun _ _ => rfl) (fun _ _ => rfl)
   (fun n w3 hb3 hn0 hn => mpolySet2_any w2.heap.size w2 w3 (.slice none 0 0) n hn0 (by omega) (Nat.le_refl _) ((below_alloc (Below.refl _ _) _).trans (hb3.mono (by simp))) (by rw [hb3.block _ (by simp)]; exact heap_alloc_new w2 _))
   (fun d p w' hI hp hd => mring2_any w2.heap.size w2 HR2.out d p w' hI (by omega) (by omega))
  have HS := Lib.hid hsp
  clear hsp
  refine HS.out.mono ?_
  rintro e w5 (⟨rfl, v5, vs5, rss, hc5, hown5, hpts5, hall5, hbel5, hb5⟩ | ⟨t, u, rfl, hF, hJ⟩)
  ·obtain ⟨A5, c5, rfl⟩ := Row.shape hown5
   have hbw : Below w.heap.size w w5 := HB.out.1.trans (hbel5.mono hsz)
   have hcb5 : w5.cell? ⟨w2.heap.size, 0, none⟩ = some (.slice A5 rss.length c5) := by rw [Joins.cell_of_block hc5]; rfl
   have hc1 : w5.heap[b]? = some (.cells #[v] 58 (0, 0)) := by rw [hbw.block _ (Array.getElem?_eq_some_iff.1 H.out.2.1).1]; exact H.out.2.1
   have hown1 := Row.below H.out.2.2.1 hbw
   have hcb : w5.cell? ⟨b, 0, none⟩ = some v := by rw [Joins.cell_of_block hc1]; rfl
   have hbs : b < w5.heap.size := (Array.getElem?_eq_some_iff.1 hc1).1
   have hne : ¬ b = w5.heap.size := by omega
   have hne' : ¬ w5.heap.size = b := by omega
   have hsz5 : w0.heap.size <= w5.heap.size := Nat.le_trans H.out.2.2.2.2.2.1.size hbw.size
   have H5 : Hid (Below w.heap.size w w5 /\ w5.heap[b]? = some (.cells #[v] 58 (0, 0)) /\ Rws w0.heap.size 86 w5 (.slice A5 rss.length c5) rss /\ PolyIn (ls p) rss) := ⟨hbw, hc1, Rws.mono ⟨vs5, hown5, hpts5⟩ (Nat.le_trans H.out.2.2.2.2.2.1.size hsz), r, HB.out.2, by rw [<- HQ.out]; exact hall5⟩
   clear hc5 hown5 hpts5 hall5 hbel5 hb5 hbw hc1
   go_wp2_with (at_builtin; refine wpList_append_own _ rfl (.tmp 21) (.tmp 23) 58 rfl w0.heap.size 52 j0 (.slice none 0 0) 1 24 Tryz.underlying58 hj hy0 hy1 hy2 rfl (by decide) _ _ _ rfl (hown1.alloc _) ⟨w5.heap.size, 0, none⟩ 1 1 [.slice A5 rss.length c5] rfl rfl ?c1 ?c2 ?c3 ?c4 ?c5 ?_)
   case c1 => exact one_new (by simp)
   case c2 => exact one_cell rfl
   case c3 => unfold maxLen; omega
   case c4 => omega
   case c5 => simp; omega
   intro v' w6 hown6 hgrow6 hnn
   have k2 : Keep w0.heap.size (fun t => t = 58 \/ t = 52) _ w6 := Keep.grown (S := fun t => t = 58 \/ t = 52) (hown1.alloc _) hgrow6 (.inr rfl)
   have k2' : Keep w0.heap.size (fun t => t = 52) _ w6 := Keep.grown (S := fun t => t = 52) (hown1.alloc _) hgrow6 rfl
   have k1 : Keep w0.heap.size (fun t => t = 58 \/ t = 52) w5 w6 := (Keep.alloc _).trans k2
   have hc6 : w6.heap[b]? = some (.cells #[v] 58 (0, 0)) := ((Keep.alloc _).trans k2').cells H5.out.2.1 (.inl (by decide))
   have hcb6 : w6.cell? ⟨b, 0, none⟩ = some v := by rw [Joins.cell_of_block hc6]; rfl
   have ufb6 : w6.frozen? ⟨b, 0, none⟩ = false := Joins.unfrozen_of_block hc6 0
   obtain ⟨vA, vc, rfl⟩ := Row.shape hown6
   have HE : Hid (MgI b w0 (d ++ [ls p]) (w6.setCell ⟨b, 0, none⟩ (.slice vA (xs.length + 1) vc)) /\ Keep w0.heap.size (fun t => t = 58 \/ t = 52) w (w6.setCell ⟨b, 0, none⟩ (.slice vA (xs.length + 1) vc))) :=
    mg_next hb H.out.2.2.2.1 H.out.2.2.2.2.1 H.out.2.2.2.2.2.1 H5.out.1 H5.out.2.2.1 H5.out.2.2.2 k1 hc6 hown6
   clear hown6 hgrow6 hnn k1 k2 k2' hc6 hown1
   go_wp2_with fail
   go_returns
   exact ⟨.inl ⟨rfl, HE.out.1⟩, HE.out.2⟩
  ·have HE : Hid (PolyInF (ls p) /\ Below w.heap.size w w5) := ⟨.inr ⟨r, HB.out.2, by rw [<- HQ.out]; exact hF⟩, HB.out.1.trans (hJ.mono hsz)⟩
   clear hF hJ
   go_wp2_with fail
   go_returns
   exact ⟨.inr ⟨t, u, rfl, HE.out.1, H.out.2.2.2.2.2.1.trans (HE.out.2.mono H.out.2.2.2.2.2.1.size)⟩, Keep.ofBelow HE.out.2⟩
 ·have HJ := Lib.hid (And.intro hb2 hr)
  clear hb2 hr
  go_wp2_with fail
  go_returns
  exact ⟨.inr ⟨t, u, rfl, .inl HJ.out.2, H.out.2.2.2.2.2.1.trans (HJ.out.1.mono H.out.2.2.2.2.2.1.size)⟩, Keep.ofBelow HJ.out.1⟩
theorem uMPoly_any (s : ByteArray) (w : World) (hs : s.size <= 1099511627776) (h10 : 12 <= s.size) (hre : RE w) :
  Calls Tryz.prog 28 #[.string s] w (RdPost (Pls w.heap.size) (Whole txMPoly 12 MPolyR) (WholeBad txMPoly 12 MPolyF) (ls s) w) := by
 have hef := EqualFold_any s { data := #[77, 85, 76, 84, 73, 80, 79, 76, 89, 71, 79, 78, 32, 69, 77, 80, 84, 89] } w hs (by decide) (by decide) hre.fold
 have H := Lib.hid (And.intro hef hre)
 clear hef hre
 have hx : ls (s.extract 12 s.size) = (ls s).drop 12 := by rw [ls_extract, List.take_of_length_le (by simp [ls_length])]
 have HX := Lib.hid hx
 clear hx
 go_enter Tryz.func28, Tryz.ntmps28
 go_wp2_with fail
 refine H.out.1.mono ?_
 rintro e w1 ⟨hb1, b, rfl, hfe⟩
 have HF : Hid (Below w.heap.size w w1 /\ (low128 (ls s) = true -> foldEq (ls s) txMPoly = b)) := ⟨hb1, fun h => (hfe h).symm⟩
 clear hb1 hfe
 cases b
 ·go_wp2_with fail
  refine (trimSpaceBrackets_any (s.extract 12 s.size) w1 (by rw [ByteArray.size_extract]; omega) (H.out.2.below HF.out.1).env).mono ?_
  rintro e w2 ⟨hb2, ⟨r, hr, rfl⟩ | ⟨hr, t, v, rfl⟩⟩
  ·have hrl := brk_len hr
   rw [ls_length, ByteArray.size_extract] at hrl
   rw [HX.out] at hr
   have HB : Hid (Below w.heap.size w w2 /\ brk ((ls s).drop 12) = some r) := ⟨HF.out.1.trans (hb2.mono HF.out.1.size), hr⟩
   clear hb2 hr
   obtain ⟨q, hq⟩ : ∃ q, bs r = q := ⟨_, rfl⟩
   have hql : ls q = r := by rw [<- hq, ls_bs]
   have hqs : q.size <= s.size := by rw [<- ls_length q, hql]; omega
   rw [hq]
   have HQ := Lib.hid hql
   clear hq hql hrl
   have hsz := HB.out.1.size
   go_wp2_with fail
   have hsp := splitRegexp_any q true 54 55 ⟨w2.heap.size, 0, none⟩ ⟨w2.heap.size, 0, none⟩ w.heap.size (fun t => t = 58 \/ t = 52) (MgI w2.heap.size w) PolyInF (fun w' => Below w.heap.size w w') (w2.alloc (Obj.cells #[.slice none 0 0] 58)) (by omega) (by decide) (by decide) (fun _ _ => rfl) (fun _ _ => rfl)
    (fun n w3 hb3 hn0 hn => mpolySet_any w2.heap.size w w3 (.slice none 0 0) n hn0 (by omega) hsz ((below_alloc HB.out.1 _).trans (hb3.mono (below_alloc HB.out.1 _).size)) (by rw [hb3.block _ (by simp)]; exact heap_alloc_new w2 _))
    (fun d p w' hI hp hd => mpoly2_any w2.heap.size w H.out.2 d p w' hI (by omega) (by omega))
   have HS := Lib.hid hsp
   clear hsp
   refine HS.out.mono ?_
   rintro e w5 (⟨rfl, v, vs, rss, hc, hown, hpts, hall, hbel, -⟩ | ⟨t, u, rfl, hF, hJ⟩)
   ·have hcb : w5.cell? ⟨w2.heap.size, 0, none⟩ = some v := by rw [Joins.cell_of_block hc]; rfl
    obtain ⟨vA, vc, rfl⟩ := Row.shape hown
    have HE := Lib.hid (And.intro hown (And.intro hpts (And.intro hall hbel)))
    clear hc hown hpts hall hbel
    go_wp2_with fail
    go_returns
    exact ⟨HE.out.2.2.2, .inl ⟨_, rss, rfl, ⟨vs, HE.out.1, HE.out.2.1⟩, .inr ⟨HF.out.2, r, HB.out.2, by rw [<- HQ.out]; exact HE.out.2.2.1⟩⟩⟩
   ·have HE := Lib.hid (And.intro hF hJ)
    clear hF hJ
    go_wp2_with fail
    go_returns
    exact ⟨HE.out.2, .inr ⟨_, t, u, rfl, HF.out.2, .inr ⟨r, HB.out.2, by rw [<- HQ.out]; exact HE.out.1⟩⟩⟩
  ·have HB : Hid (Below w.heap.size w w2 /\ brk ((ls s).drop 12) = none) := ⟨HF.out.1.trans (hb2.mono HF.out.1.size), by rw [<- HX.out]; exact hr⟩
   clear hb2 hr
   go_wp2_with fail
   go_returns
   exact ⟨HB.out.1, .inr ⟨_, t, v, rfl, HF.out.2, .inl HB.out.2⟩⟩
 ·go_wp2_with fail
  go_returns
  exact ⟨below_alloc HF.out.1 _, .inl ⟨_, [], rfl, ⟨[], row_lit w1 w.heap.size 52 1 0 [] HF.out.1.size rfl (by unfold maxLen; omega), trivial⟩, .inl ⟨HF.out.2, rfl⟩⟩⟩
end Go.Proofs.YtdfolbmoohcblaaGreatDoor
