/-
For FnReadAgain, part 29: W11 W11a W12 W12a W12b.
-/
import Derived.Test.YtdfolbmoohcblaaGreatDoorM27
import Derived.Test.YtdfolbmoohcblaaGreatDoorM02
import Derived.OwnWalk
set_option linter.all false
namespace Go.Proofs.YtdfolbmoohcblaaGreatDoor
set_option maxHeartbeats 4000000
set_option maxRecDepth 100000
open Go.RowKit
def CmPost (s : ByteArray) (w : World) (e : Ending) (w' : World) : Prop := (∃ n : Nat, n <= s.size /\ e = .returned (.int .i64 n)) /\ w = w'
theorem commas_any (s : ByteArray) (w : World) (hs : s.size <= 1099511627776) : Calls Tryz.prog 43 #[.string s] w (CmPost s w) := by
 go_enter Tryz.func43, Tryz.ntmps43
 go_wp2
 go_loop [3, 4] (fun n i => ∃ k m : Nat, k <= s.size /\ m <= k /\ i = .int .i64 k /\ n = .int .i64 m) (fun _ i => s.size - (intOf i).toNat)
 case atStart => exact ⟨0, 0, Nat.zero_le _, Nat.zero_le _, rfl, rfl⟩
 case round =>
  obtain ⟨k, m, hk, hm, rfl, rfl⟩ := hrel
  by_cases hlt : k < s.size
  ·go_wp2
   ·go_round
    case rel => exact ⟨k+1, m+1, by omega, by omega, by go_num, by go_num⟩
    case measure => simp [intOf]; omega
   ·go_round
    case rel => exact ⟨k+1, m, by omega, by omega, by go_num, rfl⟩
    case measure => simp [intOf]; omega
  ·go_wp2
   go_ret
   exact ⟨⟨m, by omega, rfl⟩, rfl⟩
def flat (ps : List (Nat × Nat)) : List Value := ps.flatMap fun p => [.float .f64 p.1, .float .f64 p.2]
theorem flat_len (ps : List (Nat × Nat)) : (flat ps).length = ps.length * 2 := by
 induction ps with
 | nil => rfl
 | cons p r ih => unfold flat at *; rw [List.flatMap_cons, List.length_append, ih]; simp; omega
theorem flat_snoc (ps : List (Nat × Nat)) (p : Nat × Nat) : flat (ps ++ [p]) = flat ps ++ [.float .f64 p.1, .float .f64 p.2] := by
 unfold flat; simp
def PtR (l : List UInt8) (q : Nat × Nat) : Prop := VN q.1 /\ VN q.2 /\ ∀ r, ptP l = some r -> r = q
def PtI (T b : Nat) (w0 : World) (R : List UInt8 -> Nat × Nat -> Prop) (d : List (List UInt8)) (w : World) : Prop :=
 ∃ v ps, w.heap[b]? = some (.cells #[v] T (0, 0)) /\ w.ownsRow w0.heap.size 47 2 v ps.length (flat ps) /\ All2 R d ps /\ Below w0.heap.size w0 w /\ w0.heap.size <= b
theorem info47 : (Tryz.prog.info? 47).map (fun i => (i.zero, i.size, i.bytes)) = some (some (.agg #[.float .f64 0, .float .f64 0]), 2, 16) := by kernel_rfl
theorem two_new {w : World} {x y : Value} {t g : Nat} (hg : g = w.heap.size) : ∀ j u, [x, y][j]? = some u -> (w.alloc (Obj.cells #[x, y] t)).cell? ((⟨g, 0, none⟩ : Addr).add j) = some u := by
 subst hg
 intro j u hu
 have e : ((⟨w.heap.size, 0, none⟩ : Addr).add j) = ⟨w.heap.size, j, none⟩ := by unfold Addr.add; split <;> simp_all
 rw [e]
 have h := heap_alloc_new w (Obj.cells #[x, y] t)
 rw [Joins.cell_of_block h]
 rw [<- hu]; simp
theorem below_alloc {w0 w : World} (h : Below w0.heap.size w0 w) (o : Obj) : Below w0.heap.size w0 (w.alloc o) := h.alloc h.size o
theorem pt_next {T b : Nat} {w0 w2 : World} {R : List UInt8 -> Nat × Nat -> Prop} {d : List (List UInt8)} {ps : List (Nat × Nat)} {p : List UInt8} {q : Nat × Nat} {v v' : Value} (hb : w0.heap.size <= b) (hall : All2 R d ps) (hq : R p q) (hc : w2.heap[b]? = some (.cells #[v] T (0, 0)))
  (hown : w2.ownsRow w0.heap.size 47 2 v' (ps.length + 1) (flat ps ++ [.float .f64 q.1, .float .f64 q.2])) (hbel : Below w0.heap.size w0 w2) (hT : ¬ (47 = T)) : PtI T b w0 R (d ++ [p]) (w2.setCell ⟨b, 0, none⟩ v') := by
 have hk : Keep w0.heap.size (fun t => t = T) w2 (w2.setCell ⟨b, 0, none⟩ v') := Keep.setCell (S := fun t => t = T) (a := ⟨b, 0, none⟩) hc hb rfl v'
 refine ⟨v', ps ++ [q], ?_, ?_, hall.snoc hq, hbel.setCell (p := ⟨b, 0, none⟩) hb _, hb⟩
 ·rw [Joins.block_setCell (i := 0) hc]; rfl
 ·rw [flat_snoc, List.length_append]
  exact Row.kept hown hk (.inr hT)
theorem lineCl_any (b : Nat) (w0 : World) (hre : RE w0) (d : List (List UInt8)) (p : ByteArray) (w : World) (hI : PtI 50 b w0 PtR d w) (hp : p.size <= 1099511627776) (hd : d.length <= 1099511627776) :
  Calls Tryz.prog 45 #[.string p, .pointer (some ⟨b, 0, none⟩)] w (YPost (PtI 50 b w0 PtR) (fun l => ptP l = none) (fun w' => Below w0.heap.size w0 w') d (ls p)) := by
 obtain ⟨v, ps, hc, hown, hall, hbel, hb⟩ := hI
 have hlen := hall.len
 have hpp := parsePoint_any p w hp (hre.below hbel)
 obtain ⟨i0, hi, hz0, hz1, hz2⟩ := info_parts info47
 have hst := run_store_float
 have H := Lib.hid (And.intro hpp (And.intro hc (And.intro hown (And.intro hall (And.intro hbel hb)))))
 clear hpp hc hown hall hbel hre
 rw [hlen] at hd
 clear hlen
 go_enter Tryz.func45, Tryz.ntmps45
 go_wp2_with fail
 refine H.out.1.mono ?_
 rintro e w1 ⟨hb1, ⟨q, hv1, hv2, rfl, hq⟩ | ⟨hnone, q, t, u, rfl⟩⟩
 ·have HQ : Hid (PtR (ls p) q) := ⟨hv1, hv2, hq⟩
  have hc1 : w1.heap[b]? = some (.cells #[v] 50 (0, 0)) := by rw [hb1.block _ (Array.getElem?_eq_some_iff.1 H.out.2.1).1]; exact H.out.2.1
  have hown1 := Row.below H.out.2.2.1 hb1
  have hbl : Below w0.heap.size w0 w1 := H.out.2.2.2.2.1.trans (hb1.mono H.out.2.2.2.2.1.size)
  have hbs : b < w1.heap.size := (Array.getElem?_eq_some_iff.1 hc1).1
  have HB := Lib.hid (And.intro hc1 hbl)
  have hsz := hbl.size
  have hcb : w1.cell? ⟨b, 0, none⟩ = some v := by rw [Joins.cell_of_block hc1]; rfl
  have ufb : w1.frozen? ⟨b, 0, none⟩ = false := Joins.unfrozen_of_block hc1 0
  have hne : ¬ b = w1.heap.size := by omega
  have hne' : ¬ w1.heap.size = b := by omega
  clear hv1 hv2 hq hb1 hc1 hbl
  unfold PV
  go_wp2_with (at_builtin; refine wpList_append_own _ rfl (.tmp 14) (.tmp 16) 50 rfl w0.heap.size 47 i0 (.agg #[.float .f64 0, .float .f64 0]) 2 16 Tryz.underlying50 hi hz0 hz1 hz2 rfl (by decide) _ _ _ rfl ((hown1.alloc _).alloc _) ⟨w1.heap.size + 1, 0, none⟩ 1 1 [.float .f64 q.1, .float .f64 q.2] rfl rfl ?c1 ?c2 ?c3 ?c4 ?c5 ?_)
  case c1 => exact two_new (by simp)
  case c2 => intro u hu; simp at hu; rcases hu with rfl | rfl <;> rfl
  case c3 => unfold maxLen; omega
  case c4 => omega
  case c5 => simp; omega
  intro v' w2 hown2 hgrow2 hnn
  have k2 : Keep w0.heap.size (fun t => t = 47) _ w2 := Keep.grown (S := fun t => t = 47) ((hown1.alloc _).alloc _) hgrow2 rfl
  have k1 : Keep w0.heap.size (fun t => t = 47) w1 w2 := ((Keep.alloc _).trans (Keep.alloc _)).trans k2
  have hc2 : w2.heap[b]? = some (.cells #[v] 50 (0, 0)) := k1.cells HB.out.1 (.inl (by decide))
  have hcb2 : w2.cell? ⟨b, 0, none⟩ = some v := by rw [Joins.cell_of_block hc2]; rfl
  have ufb2 : w2.frozen? ⟨b, 0, none⟩ = false := Joins.unfrozen_of_block hc2 0
  obtain ⟨vA, vc, rfl⟩ := Row.shape hown2
  have HE : Hid (PtI 50 b w0 PtR (d ++ [ls p]) (w2.setCell ⟨b, 0, none⟩ (.slice vA (ps.length + 1) vc))) := pt_next hb H.out.2.2.2.1 HQ.out hc2 hown2 (HB.out.2.trans (k1.below' hsz)) (by decide)
  clear hown2 hgrow2 hnn k1 k2 hc2 hown1
  go_wp2_with fail
  go_returns
  exact .inl ⟨rfl, HE.out⟩
 ·have HJ : Hid (ptP (ls p) = none /\ Below w0.heap.size w0 w1) := ⟨hnone, H.out.2.2.2.2.1.trans (hb1.mono H.out.2.2.2.2.1.size)⟩
  clear hb1 hnone
  unfold PV
  go_wp2_with fail
  go_returns
  exact .inr ⟨t, u, rfl, HJ.out.1, below_alloc HJ.out.2 _⟩
theorem ringCl_any (b : Nat) (w0 : World) (hre : RE w0) (d : List (List UInt8)) (p : ByteArray) (w : World) (hI : PtI 86 b w0 PtR d w) (hp : p.size <= 1099511627776) (hd : d.length <= 1099511627776) :
  Calls Tryz.prog 49 #[.string p, .pointer (some ⟨b, 0, none⟩)] w (YPost (PtI 86 b w0 PtR) (fun l => ptP l = none) (fun w' => Below w0.heap.size w0 w') d (ls p)) := by
 obtain ⟨v, ps, hc, hown, hall, hbel, hb⟩ := hI
 have hlen := hall.len
 have hpp := parsePoint_any p w hp (hre.below hbel)
 obtain ⟨i0, hi, hz0, hz1, hz2⟩ := info_parts info47
 have hst := run_store_float
 have H := Lib.hid (And.intro hpp (And.intro hc (And.intro hown (And.intro hall (And.intro hbel hb)))))
 clear hpp hc hown hall hbel hre
 rw [hlen] at hd
 clear hlen
 go_enter Tryz.func49, Tryz.ntmps49
 go_wp2_with fail
 refine H.out.1.mono ?_
 rintro e w1 ⟨hb1, ⟨q, hv1, hv2, rfl, hq⟩ | ⟨hnone, q, t, u, rfl⟩⟩
 ·have HQ : Hid (PtR (ls p) q) := ⟨hv1, hv2, hq⟩
  have hc1 : w1.heap[b]? = some (.cells #[v] 86 (0, 0)) := by rw [hb1.block _ (Array.getElem?_eq_some_iff.1 H.out.2.1).1]; exact H.out.2.1
  have hown1 := Row.below H.out.2.2.1 hb1
  have hbl : Below w0.heap.size w0 w1 := H.out.2.2.2.2.1.trans (hb1.mono H.out.2.2.2.2.1.size)
  have hbs : b < w1.heap.size := (Array.getElem?_eq_some_iff.1 hc1).1
  have HB := Lib.hid (And.intro hc1 hbl)
  have hsz := hbl.size
  have hcb : w1.cell? ⟨b, 0, none⟩ = some v := by rw [Joins.cell_of_block hc1]; rfl
  have ufb : w1.frozen? ⟨b, 0, none⟩ = false := Joins.unfrozen_of_block hc1 0
  have hne : ¬ b = w1.heap.size := by omega
  have hne' : ¬ w1.heap.size = b := by omega
  clear hv1 hv2 hq hb1 hc1 hbl
  unfold PV
  go_wp2_with (at_builtin; refine wpList_append_own _ rfl (.tmp 14) (.tmp 16) 86 rfl w0.heap.size 47 i0 (.agg #[.float .f64 0, .float .f64 0]) 2 16 Tryz.underlying86 hi hz0 hz1 hz2 rfl (by decide) _ _ _ rfl ((hown1.alloc _).alloc _) ⟨w1.heap.size + 1, 0, none⟩ 1 1 [.float .f64 q.1, .float .f64 q.2] rfl rfl ?c1 ?c2 ?c3 ?c4 ?c5 ?_)
  case c1 => exact two_new (by simp)
  case c2 => intro u hu; simp at hu; rcases hu with rfl | rfl <;> rfl
  case c3 => unfold maxLen; omega
  case c4 => omega
  case c5 => simp; omega
  intro v' w2 hown2 hgrow2 hnn
  have k2 : Keep w0.heap.size (fun t => t = 47) _ w2 := Keep.grown (S := fun t => t = 47) ((hown1.alloc _).alloc _) hgrow2 rfl
  have k1 : Keep w0.heap.size (fun t => t = 47) w1 w2 := ((Keep.alloc _).trans (Keep.alloc _)).trans k2
  have hc2 : w2.heap[b]? = some (.cells #[v] 86 (0, 0)) := k1.cells HB.out.1 (.inl (by decide))
  have hcb2 : w2.cell? ⟨b, 0, none⟩ = some v := by rw [Joins.cell_of_block hc2]; rfl
  have ufb2 : w2.frozen? ⟨b, 0, none⟩ = false := Joins.unfrozen_of_block hc2 0
  obtain ⟨vA, vc, rfl⟩ := Row.shape hown2
  have HE : Hid (PtI 86 b w0 PtR (d ++ [ls p]) (w2.setCell ⟨b, 0, none⟩ (.slice vA (ps.length + 1) vc))) := pt_next hb H.out.2.2.2.1 HQ.out hc2 hown2 (HB.out.2.trans (k1.below' hsz)) (by decide)
  clear hown2 hgrow2 hnn k1 k2 hc2 hown1
  go_wp2_with fail
  go_returns
  exact .inl ⟨rfl, HE.out⟩
 ·have HJ : Hid (ptP (ls p) = none /\ Below w0.heap.size w0 w1) := ⟨hnone, H.out.2.2.2.2.1.trans (hb1.mono H.out.2.2.2.2.1.size)⟩
  clear hb1 hnone
  unfold PV
  go_wp2_with fail
  go_returns
  exact .inr ⟨t, u, rfl, HJ.out.1, below_alloc HJ.out.2 _⟩
theorem mlineCl_any (b : Nat) (w0 : World) (hre : RE w0) (d : List (List UInt8)) (p : ByteArray) (w : World) (hI : PtI 50 b w0 PtR d w) (hp : p.size <= 1099511627776) (hd : d.length <= 1099511627776) :
  Calls Tryz.prog 53 #[.string p, .pointer (some ⟨b, 0, none⟩)] w (YPost (PtI 50 b w0 PtR) (fun l => ptP l = none) (fun w' => Below w0.heap.size w0 w') d (ls p)) := by
 obtain ⟨v, ps, hc, hown, hall, hbel, hb⟩ := hI
 have hlen := hall.len
 have hpp := parsePoint_any p w hp (hre.below hbel)
 obtain ⟨i0, hi, hz0, hz1, hz2⟩ := info_parts info47
 have hst := run_store_float
 have H := Lib.hid (And.intro hpp (And.intro hc (And.intro hown (And.intro hall (And.intro hbel hb)))))
 clear hpp hc hown hall hbel hre
 rw [hlen] at hd
 clear hlen
 go_enter Tryz.func53, Tryz.ntmps53
 go_wp2_with fail
 refine H.out.1.mono ?_
 rintro e w1 ⟨hb1, ⟨q, hv1, hv2, rfl, hq⟩ | ⟨hnone, q, t, u, rfl⟩⟩
 ·have HQ : Hid (PtR (ls p) q) := ⟨hv1, hv2, hq⟩
  have hc1 : w1.heap[b]? = some (.cells #[v] 50 (0, 0)) := by rw [hb1.block _ (Array.getElem?_eq_some_iff.1 H.out.2.1).1]; exact H.out.2.1
  have hown1 := Row.below H.out.2.2.1 hb1
  have hbl : Below w0.heap.size w0 w1 := H.out.2.2.2.2.1.trans (hb1.mono H.out.2.2.2.2.1.size)
  have hbs : b < w1.heap.size := (Array.getElem?_eq_some_iff.1 hc1).1
  have HB := Lib.hid (And.intro hc1 hbl)
  have hsz := hbl.size
  have hcb : w1.cell? ⟨b, 0, none⟩ = some v := by rw [Joins.cell_of_block hc1]; rfl
  have ufb : w1.frozen? ⟨b, 0, none⟩ = false := Joins.unfrozen_of_block hc1 0
  have hne : ¬ b = w1.heap.size := by omega
  have hne' : ¬ w1.heap.size = b := by omega
  clear hv1 hv2 hq hb1 hc1 hbl
  unfold PV
  go_wp2_with (at_builtin; refine wpList_append_own _ rfl (.tmp 14) (.tmp 16) 50 rfl w0.heap.size 47 i0 (.agg #[.float .f64 0, .float .f64 0]) 2 16 Tryz.underlying50 hi hz0 hz1 hz2 rfl (by decide) _ _ _ rfl ((hown1.alloc _).alloc _) ⟨w1.heap.size + 1, 0, none⟩ 1 1 [.float .f64 q.1, .float .f64 q.2] rfl rfl ?c1 ?c2 ?c3 ?c4 ?c5 ?_)
  case c1 => exact two_new (by simp)
  case c2 => intro u hu; simp at hu; rcases hu with rfl | rfl <;> rfl
  case c3 => unfold maxLen; omega
  case c4 => omega
  case c5 => simp; omega
  intro v' w2 hown2 hgrow2 hnn
  have k2 : Keep w0.heap.size (fun t => t = 47) _ w2 := Keep.grown (S := fun t => t = 47) ((hown1.alloc _).alloc _) hgrow2 rfl
  have k1 : Keep w0.heap.size (fun t => t = 47) w1 w2 := ((Keep.alloc _).trans (Keep.alloc _)).trans k2
  have hc2 : w2.heap[b]? = some (.cells #[v] 50 (0, 0)) := k1.cells HB.out.1 (.inl (by decide))
  have hcb2 : w2.cell? ⟨b, 0, none⟩ = some v := by rw [Joins.cell_of_block hc2]; rfl
  have ufb2 : w2.frozen? ⟨b, 0, none⟩ = false := Joins.unfrozen_of_block hc2 0
  obtain ⟨vA, vc, rfl⟩ := Row.shape hown2
  have HE : Hid (PtI 50 b w0 PtR (d ++ [ls p]) (w2.setCell ⟨b, 0, none⟩ (.slice vA (ps.length + 1) vc))) := pt_next hb H.out.2.2.2.1 HQ.out hc2 hown2 (HB.out.2.trans (k1.below' hsz)) (by decide)
  clear hown2 hgrow2 hnn k1 k2 hc2 hown1
  go_wp2_with fail
  go_returns
  exact .inl ⟨rfl, HE.out⟩
 ·have HJ : Hid (ptP (ls p) = none /\ Below w0.heap.size w0 w1) := ⟨hnone, H.out.2.2.2.2.1.trans (hb1.mono H.out.2.2.2.2.1.size)⟩
  clear hb1 hnone
  unfold PV
  go_wp2_with fail
  go_returns
  exact .inr ⟨t, u, rfl, HJ.out.1, below_alloc HJ.out.2 _⟩
theorem mringCl_any (b : Nat) (w0 : World) (hre : RE w0) (d : List (List UInt8)) (p : ByteArray) (w : World) (hI : PtI 86 b w0 PtR d w) (hp : p.size <= 1099511627776) (hd : d.length <= 1099511627776) :
  Calls Tryz.prog 58 #[.string p, .pointer (some ⟨b, 0, none⟩)] w (YPost (PtI 86 b w0 PtR) (fun l => ptP l = none) (fun w' => Below w0.heap.size w0 w') d (ls p)) := by
 obtain ⟨v, ps, hc, hown, hall, hbel, hb⟩ := hI
 have hlen := hall.len
 have hpp := parsePoint_any p w hp (hre.below hbel)
 obtain ⟨i0, hi, hz0, hz1, hz2⟩ := info_parts info47
 have hst := run_store_float
 have H := Lib.hid (And.intro hpp (And.intro hc (And.intro hown (And.intro hall (And.intro hbel hb)))))
 clear hpp hc hown hall hbel hre
 rw [hlen] at hd
 clear hlen
 go_enter Tryz.func58, Tryz.ntmps58
 go_wp2_with fail
 refine H.out.1.mono ?_
 rintro e w1 ⟨hb1, ⟨q, hv1, hv2, rfl, hq⟩ | ⟨hnone, q, t, u, rfl⟩⟩
 ·have HQ : Hid (PtR (ls p) q) := ⟨hv1, hv2, hq⟩
  have hc1 : w1.heap[b]? = some (.cells #[v] 86 (0, 0)) := by rw [hb1.block _ (Array.getElem?_eq_some_iff.1 H.out.2.1).1]; exact H.out.2.1
  have hown1 := Row.below H.out.2.2.1 hb1
  have hbl : Below w0.heap.size w0 w1 := H.out.2.2.2.2.1.trans (hb1.mono H.out.2.2.2.2.1.size)
  have hbs : b < w1.heap.size := (Array.getElem?_eq_some_iff.1 hc1).1
  have HB := Lib.hid (And.intro hc1 hbl)
  have hsz := hbl.size
  have hcb : w1.cell? ⟨b, 0, none⟩ = some v := by rw [Joins.cell_of_block hc1]; rfl
  have ufb : w1.frozen? ⟨b, 0, none⟩ = false := Joins.unfrozen_of_block hc1 0
  have hne : ¬ b = w1.heap.size := by omega
  have hne' : ¬ w1.heap.size = b := by omega
  clear hv1 hv2 hq hb1 hc1 hbl
  unfold PV
  go_wp2_with (at_builtin; refine wpList_append_own _ rfl (.tmp 14) (.tmp 16) 86 rfl w0.heap.size 47 i0 (.agg #[.float .f64 0, .float .f64 0]) 2 16 Tryz.underlying86 hi hz0 hz1 hz2 rfl (by decide) _ _ _ rfl ((hown1.alloc _).alloc _) ⟨w1.heap.size + 1, 0, none⟩ 1 1 [.float .f64 q.1, .float .f64 q.2] rfl rfl ?c1 ?c2 ?c3 ?c4 ?c5 ?_)
  case c1 => exact two_new (by simp)
  case c2 => intro u hu; simp at hu; rcases hu with rfl | rfl <;> rfl
  case c3 => unfold maxLen; omega
  case c4 => omega
  case c5 => simp; omega
  intro v' w2 hown2 hgrow2 hnn
  have k2 : Keep w0.heap.size (fun t => t = 47) _ w2 := Keep.grown (S := fun t => t = 47) ((hown1.alloc _).alloc _) hgrow2 rfl
  have k1 : Keep w0.heap.size (fun t => t = 47) w1 w2 := ((Keep.alloc _).trans (Keep.alloc _)).trans k2
  have hc2 : w2.heap[b]? = some (.cells #[v] 86 (0, 0)) := k1.cells HB.out.1 (.inl (by decide))
  have hcb2 : w2.cell? ⟨b, 0, none⟩ = some v := by rw [Joins.cell_of_block hc2]; rfl
  have ufb2 : w2.frozen? ⟨b, 0, none⟩ = false := Joins.unfrozen_of_block hc2 0
  obtain ⟨vA, vc, rfl⟩ := Row.shape hown2
  have HE : Hid (PtI 86 b w0 PtR (d ++ [ls p]) (w2.setCell ⟨b, 0, none⟩ (.slice vA (ps.length + 1) vc))) := pt_next hb H.out.2.2.2.1 HQ.out hc2 hown2 (HB.out.2.trans (k1.below' hsz)) (by decide)
  clear hown2 hgrow2 hnn k1 k2 hc2 hown1
  go_wp2_with fail
  go_returns
  exact .inl ⟨rfl, HE.out⟩
 ·have HJ : Hid (ptP (ls p) = none /\ Below w0.heap.size w0 w1) := ⟨hnone, H.out.2.2.2.2.1.trans (hb1.mono H.out.2.2.2.2.1.size)⟩
  clear hb1 hnone
  unfold PV
  go_wp2_with fail
  go_returns
  exact .inr ⟨t, u, rfl, HJ.out.1, below_alloc HJ.out.2 _⟩
def Pts (B : Nat) (w : World) (v : Value) (ps : List (Nat × Nat)) : Prop := w.ownsRow B 47 2 v ps.length (flat ps)
theorem owns_mono {w : World} {B B' e size n : Nat} {v : Value} {xs : List Value} (h : w.ownsRow B e size v n xs) (hB : B' <= B) : w.ownsRow B' e size v n xs := by
 refine ⟨h.1, h.2.imp id ?_⟩
 rintro ⟨g, cap, cur, h1, h2, h3⟩
 exact ⟨g, cap, cur, h1, Nat.le_trans hB h2, h3⟩
def Whole {α : Type} (nm : List UInt8) (k : Nat) (R : List UInt8 -> List α -> Prop) (l : List UInt8) (xs : List α) : Prop :=
 ((low128 l = true -> foldEq l nm = true) /\ xs = []) \/ ((low128 l = true -> foldEq l nm = false) /\ ∃ t, brk (l.drop k) = some t /\ R t xs)
def WholeBad (nm : List UInt8) (k : Nat) (F : List UInt8 -> Prop) (l : List UInt8) : Prop :=
 (low128 l = true -> foldEq l nm = false) /\ (brk (l.drop k) = none \/ ∃ t, brk (l.drop k) = some t /\ F t)
def LineR (t : List UInt8) (ps : List (Nat × Nat)) : Prop := All2 PtR (commaPieces t) ps
def LineF (t : List UInt8) : Prop := ∃ p ∈ commaPieces t, ptP p = none
def txLine : List UInt8 := [76, 73, 78, 69, 83, 84, 82, 73, 78, 71, 32, 69, 77, 80, 84, 89]
def RdPost {α : Type} (Rep : World -> Value -> List α -> Prop) (Ok : List UInt8 -> List α -> Prop) (Bad : List UInt8 -> Prop) (l : List UInt8) (w : World) (e : Ending) (w' : World) : Prop :=
 Below w.heap.size w w' /\ ((∃ v xs, e = .returned (.tuple #[v, .nilIface]) /\ Rep w' v xs /\ Ok l xs) \/ (∃ v t u, e = .returned (.tuple #[v, .iface t u]) /\ Bad l))
theorem below_grown {w w' : World} (h : w.grownBy w' none) : Below w.heap.size w w' := ⟨h.os, h.tape, h.output, h.size, fun k hk => h.block k hk (by simp)⟩
theorem pt_start {T : Nat} {w0 w : World} {R : List UInt8 -> Nat × Nat -> Prop} {v : Value} (hb : Below w0.heap.size w0 w) (hown : w.ownsRow w0.heap.size 47 2 v 0 []) : PtI T w.heap.size w0 R [] (w.alloc (Obj.cells #[v] T)) :=
 ⟨v, [], heap_alloc_new w _, hown.alloc _, trivial, below_alloc hb _, hb.size⟩
theorem uLine_any (s : ByteArray) (w : World) (hs : s.size <= 1099511627776) (h10 : 10 <= s.size) (hre : RE w) :
  Calls Tryz.prog 24 #[.string s] w (RdPost (Pts w.heap.size) (Whole txLine 10 LineR) (WholeBad txLine 10 LineF) (ls s) w) := by
 have hef := EqualFold_any s { data := #[76, 73, 78, 69, 83, 84, 82, 73, 78, 71, 32, 69, 77, 80, 84, 89] } w hs (by decide) (by decide) hre.fold
 have H := Lib.hid (And.intro hef hre)
 clear hef hre
 obtain ⟨i0, hi, hz0, hz1, hz2⟩ := info_parts info47
 have hx : ls (s.extract 10 s.size) = (ls s).drop 10 := by rw [ls_extract, List.take_of_length_le (by simp [ls_length])]
 have HX := Lib.hid hx
 clear hx
 go_enter Tryz.func24, Tryz.ntmps24
 go_wp2_with fail
 refine H.out.1.mono ?_
 rintro e w1 ⟨hb1, b, rfl, hfe⟩
 have HF : Hid (Below w.heap.size w w1 /\ (low128 (ls s) = true -> foldEq (ls s) txLine = b)) := ⟨hb1, fun h => (hfe h).symm⟩
 clear hb1 hfe
 cases b
 ·go_wp2_with fail
  refine (trimSpaceBrackets_any (s.extract 10 s.size) w1 (by rw [ByteArray.size_extract]; omega) (H.out.2.below HF.out.1).env).mono ?_
  rintro e w2 ⟨hb2, ⟨r, hr, rfl⟩ | ⟨hr, t, v, rfl⟩⟩
  ·have hrl := brk_len hr
   rw [ls_length, ByteArray.size_extract] at hrl
   rw [HX.out] at hr
   have HB : Hid (Below w.heap.size w w2 /\ brk ((ls s).drop 10) = some r) := ⟨HF.out.1.trans (hb2.mono HF.out.1.size), hr⟩
   clear hb2 hr
   obtain ⟨q, hq⟩ : ∃ q, bs r = q := ⟨_, rfl⟩
   have hql : ls q = r := by rw [<- hq, ls_bs]
   have hqs : q.size <= s.size := by rw [<- ls_length q, hql]; omega
   rw [hq]
   have HQ := Lib.hid hql
   clear hq hql hrl
   go_wp2_with fail
   refine (commas_any q w2 (by omega)).mono ?_
   rintro e w3 ⟨⟨n, hn, rfl⟩, rfl⟩
   have hsz := HB.out.1.size
   go_wp2_with (at_make; refine wpList_make_own _ rfl _ _ 50 rfl w.heap.size 47 i0 (.agg #[.float .f64 0, .float .f64 0]) 2 Tryz.underlying50 hi hz0 hz1 _ _ _ (n + 1) rfl rfl (by omega) (by rw [hz2]; omega) (by unfold maxLen; omega) hsz ?_)
   intro w4 hown hgr
   have hg4 := below_grown hgr
   have HG : Hid (Below w.heap.size w w4 /\ w4.ownsRow w.heap.size 47 2 (.slice (some ⟨w2.heap.size, 0, none⟩) 0 (n + 1)) 0 []) := ⟨HB.out.1.trans (hg4.mono hsz), hown⟩
   clear hown hgr hg4
   go_wp2_with fail
   have hsp := splitOnComma_any q 45 ⟨w4.heap.size, 0, none⟩ (PtI 50 w4.heap.size w PtR) (fun l => ptP l = none) (fun w' => Below w.heap.size w w') (w4.alloc (Obj.cells #[.slice (some ⟨w2.heap.size, 0, none⟩) 0 (n + 1)] 50)) (by omega) (fun _ _ => rfl)
    (fun d p w' hI hp hd => lineCl_any w4.heap.size w H.out.2 d p w' hI (by omega) (by omega)) (pt_start HG.out.1 HG.out.2)
   have HS := Lib.hid hsp
   clear hsp
   refine HS.out.mono ?_
   rintro e w5 (⟨rfl, v, ps, hc, hown, hall, hbel, -⟩ | ⟨t, u, rfl, hF, hJ⟩)
   ·have hcb : w5.cell? ⟨w4.heap.size, 0, none⟩ = some v := by rw [Joins.cell_of_block hc]; rfl
    obtain ⟨vA, vc, rfl⟩ := Row.shape hown
    have HE := Lib.hid (And.intro hown (And.intro hall hbel))
    clear hc hown hall hbel
    go_wp2_with fail
    go_returns
    exact ⟨HE.out.2.2, .inl ⟨_, ps, rfl, HE.out.1, .inr ⟨HF.out.2, r, HB.out.2, by rw [<- HQ.out]; exact HE.out.2.1⟩⟩⟩
   ·have HE := Lib.hid (And.intro hF hJ)
    clear hF hJ
    go_wp2_with fail
    go_returns
    exact ⟨HE.out.2, .inr ⟨_, t, u, rfl, HF.out.2, .inr ⟨r, HB.out.2, by rw [<- HQ.out]; exact HE.out.1⟩⟩⟩
  ·have HB : Hid (Below w.heap.size w w2 /\ brk ((ls s).drop 10) = none) := ⟨HF.out.1.trans (hb2.mono HF.out.1.size), by rw [<- HX.out]; exact hr⟩
   clear hb2 hr
   go_wp2_with fail
   go_returns
   exact ⟨HB.out.1, .inr ⟨_, t, v, rfl, HF.out.2, .inl HB.out.2⟩⟩
 ·go_wp2_with fail
  go_returns
  exact ⟨below_alloc HF.out.1 _, .inl ⟨_, [], rfl, row_lit w1 w.heap.size 47 2 0 [] HF.out.1.size rfl (by unfold maxLen; omega), .inl ⟨HF.out.2, rfl⟩⟩⟩
def PtRb (l : List UInt8) (q : Nat × Nat) : Prop := ∃ t, brk l = some t /\ PtR t q
def PtFb (l : List UInt8) : Prop := brk l = none \/ ∃ t, brk l = some t /\ ptP t = none
def MPointR (t : List UInt8) (ps : List (Nat × Nat)) : Prop := All2 PtRb (commaPieces t) ps
def MPointF (t : List UInt8) : Prop := ∃ p ∈ commaPieces t, PtFb p
def txMPoint : List UInt8 := [77, 85, 76, 84, 73, 80, 79, 73, 78, 84, 32, 69, 77, 80, 84, 89]
theorem mpointCl_any (b : Nat) (w0 : World) (hre : RE w0) (d : List (List UInt8)) (p : ByteArray) (w : World) (hI : PtI 54 b w0 PtRb d w) (hp : p.size <= 1099511627776) (hd : d.length <= 1099511627776) :
  Calls Tryz.prog 50 #[.string p, .pointer (some ⟨b, 0, none⟩)] w (YPost (PtI 54 b w0 PtRb) PtFb (fun w' => Below w0.heap.size w0 w') d (ls p)) := by
 obtain ⟨v, ps, hc, hown, hall, hbel, hb⟩ := hI
 have hlen := hall.len
 have hbk := trimSpaceBrackets_any p w hp (hre.below hbel).env
 obtain ⟨i0, hi, hz0, hz1, hz2⟩ := info_parts info47
 have hst := run_store_float
 have H := Lib.hid (And.intro hbk (And.intro hc (And.intro hown (And.intro hall (And.intro hbel hb)))))
 have HR := Lib.hid hre
 clear hbk hc hown hall hbel hre
 rw [hlen] at hd
 clear hlen
 go_enter Tryz.func50, Tryz.ntmps50
 go_wp2_with fail
 refine H.out.1.mono ?_
 rintro e w01 ⟨hb01, ⟨r, hr, rfl⟩ | ⟨hr, t, u, rfl⟩⟩
 case' inr =>
  have HJ : Hid (PtFb (ls p) /\ Below w0.heap.size w0 w01) := ⟨.inl hr, H.out.2.2.2.2.1.trans (hb01.mono H.out.2.2.2.2.1.size)⟩
  clear hb01 hr
  go_wp2_with fail
  go_returns
  exact .inr ⟨t, u, rfl, HJ.out.1, HJ.out.2⟩
 have hrl := brk_len hr
 rw [ls_length] at hrl
 obtain ⟨rb, hrb⟩ : ∃ rb, bs r = rb := ⟨_, rfl⟩
 have hrs : rb.size <= p.size := by rw [<- hrb, bs_size]; exact hrl
 have hr2 : brk (ls p) = some (ls rb) := by rw [<- hrb, ls_bs]; exact hr
 rw [hrb]
 have H0 : Hid (w01.heap[b]? = some (.cells #[v] 54 (0, 0)) /\ w01.ownsRow w0.heap.size 47 2 v ps.length (flat ps) /\ Below w0.heap.size w0 w01 /\ brk (ls p) = some (ls rb)) :=
  ⟨by rw [hb01.block _ (Array.getElem?_eq_some_iff.1 H.out.2.1).1]; exact H.out.2.1, Row.below H.out.2.2.1 hb01, H.out.2.2.2.2.1.trans (hb01.mono H.out.2.2.2.2.1.size), hr2⟩
 clear hb01 hr hrl hrb hr2
 have hpp := parsePoint_any rb w01 (by omega) (HR.out.below H0.out.2.2.1)
 have HP := Lib.hid hpp
 clear hpp
 go_wp2_with fail
 refine HP.out.mono ?_
 rintro e w1 ⟨hb1, ⟨q, hv1, hv2, rfl, hq⟩ | ⟨hnone, q, t, u, rfl⟩⟩
 ·have HQ : Hid (PtRb (ls p) q) := ⟨_, H0.out.2.2.2, hv1, hv2, hq⟩
  have hc1 : w1.heap[b]? = some (.cells #[v] 54 (0, 0)) := by rw [hb1.block _ (Array.getElem?_eq_some_iff.1 H0.out.1).1]; exact H0.out.1
  have hown1 := Row.below H0.out.2.1 hb1
  have hbl : Below w0.heap.size w0 w1 := H0.out.2.2.1.trans (hb1.mono H0.out.2.2.1.size)
  have hbs : b < w1.heap.size := (Array.getElem?_eq_some_iff.1 hc1).1
  have HB := Lib.hid (And.intro hc1 hbl)
  have hsz := hbl.size
  have hcb : w1.cell? ⟨b, 0, none⟩ = some v := by rw [Joins.cell_of_block hc1]; rfl
  have ufb : w1.frozen? ⟨b, 0, none⟩ = false := Joins.unfrozen_of_block hc1 0
  have hne : ¬ b = w1.heap.size := by omega
  have hne' : ¬ w1.heap.size = b := by omega
  clear hv1 hv2 hq hb1 hc1 hbl
  unfold PV
  go_wp2_with (at_builtin; refine wpList_append_own _ rfl (.tmp 22) (.tmp 24) 54 rfl w0.heap.size 47 i0 (.agg #[.float .f64 0, .float .f64 0]) 2 16 Tryz.underlying54 hi hz0 hz1 hz2 rfl (by decide) _ _ _ rfl ((hown1.alloc _).alloc _) ⟨w1.heap.size + 1, 0, none⟩ 1 1 [.float .f64 q.1, .float .f64 q.2] rfl rfl ?c1 ?c2 ?c3 ?c4 ?c5 ?_)
  case c1 => exact two_new (by simp)
  case c2 => intro u hu; simp at hu; rcases hu with rfl | rfl <;> rfl
  case c3 => unfold maxLen; omega
  case c4 => omega
  case c5 => simp; omega
  intro v' w2 hown2 hgrow2 hnn
  have k2 : Keep w0.heap.size (fun t => t = 47) _ w2 := Keep.grown (S := fun t => t = 47) ((hown1.alloc _).alloc _) hgrow2 rfl
  have k1 : Keep w0.heap.size (fun t => t = 47) w1 w2 := ((Keep.alloc _).trans (Keep.alloc _)).trans k2
  have hc2 : w2.heap[b]? = some (.cells #[v] 54 (0, 0)) := k1.cells HB.out.1 (.inl (by decide))
  have hcb2 : w2.cell? ⟨b, 0, none⟩ = some v := by rw [Joins.cell_of_block hc2]; rfl
  have ufb2 : w2.frozen? ⟨b, 0, none⟩ = false := Joins.unfrozen_of_block hc2 0
  obtain ⟨vA, vc, rfl⟩ := Row.shape hown2
  have HE : Hid (PtI 54 b w0 PtRb (d ++ [ls p]) (w2.setCell ⟨b, 0, none⟩ (.slice vA (ps.length + 1) vc))) := pt_next hb H.out.2.2.2.1 HQ.out hc2 hown2 (HB.out.2.trans (k1.below' hsz)) (by decide)
  clear hown2 hgrow2 hnn k1 k2 hc2 hown1
  go_wp2_with fail
  go_returns
  exact .inl ⟨rfl, HE.out⟩
 ·have HJ : Hid (PtFb (ls p) /\ Below w0.heap.size w0 w1) := ⟨.inr ⟨_, H0.out.2.2.2, hnone⟩, H0.out.2.2.1.trans (hb1.mono H0.out.2.2.1.size)⟩
  clear hb1 hnone
  unfold PV
  go_wp2_with fail
  go_returns
  exact .inr ⟨t, u, rfl, HJ.out.1, below_alloc HJ.out.2 _⟩
theorem uMPoint_any (s : ByteArray) (w : World) (hs : s.size <= 1099511627776) (h10 : 10 <= s.size) (hre : RE w) :
  Calls Tryz.prog 26 #[.string s] w (RdPost (Pts w.heap.size) (Whole txMPoint 10 MPointR) (WholeBad txMPoint 10 MPointF) (ls s) w) := by
 have hef := EqualFold_any s { data := #[77, 85, 76, 84, 73, 80, 79, 73, 78, 84, 32, 69, 77, 80, 84, 89] } w hs (by decide) (by decide) hre.fold
 have H := Lib.hid (And.intro hef hre)
 clear hef hre
 obtain ⟨i0, hi, hz0, hz1, hz2⟩ := info_parts info47
 have hx : ls (s.extract 10 s.size) = (ls s).drop 10 := by rw [ls_extract, List.take_of_length_le (by simp [ls_length])]
 have HX := Lib.hid hx
 clear hx
 go_enter Tryz.func26, Tryz.ntmps26
 go_wp2_with fail
 refine H.out.1.mono ?_
 rintro e w1 ⟨hb1, b, rfl, hfe⟩
 have HF : Hid (Below w.heap.size w w1 /\ (low128 (ls s) = true -> foldEq (ls s) txMPoint = b)) := ⟨hb1, fun h => (hfe h).symm⟩
 clear hb1 hfe
 cases b
 ·go_wp2_with fail
  refine (trimSpaceBrackets_any (s.extract 10 s.size) w1 (by rw [ByteArray.size_extract]; omega) (H.out.2.below HF.out.1).env).mono ?_
  rintro e w2 ⟨hb2, ⟨r, hr, rfl⟩ | ⟨hr, t, v, rfl⟩⟩
  ·have hrl := brk_len hr
   rw [ls_length, ByteArray.size_extract] at hrl
   rw [HX.out] at hr
   have HB : Hid (Below w.heap.size w w2 /\ brk ((ls s).drop 10) = some r) := ⟨HF.out.1.trans (hb2.mono HF.out.1.size), hr⟩
   clear hb2 hr
   obtain ⟨q, hq⟩ : ∃ q, bs r = q := ⟨_, rfl⟩
   have hql : ls q = r := by rw [<- hq, ls_bs]
   have hqs : q.size <= s.size := by rw [<- ls_length q, hql]; omega
   rw [hq]
   have HQ := Lib.hid hql
   clear hq hql hrl
   go_wp2_with fail
   refine (commas_any q w2 (by omega)).mono ?_
   rintro e w3 ⟨⟨n, hn, rfl⟩, rfl⟩
   have hsz := HB.out.1.size
   go_wp2_with (at_make; refine wpList_make_own _ rfl _ _ 54 rfl w.heap.size 47 i0 (.agg #[.float .f64 0, .float .f64 0]) 2 Tryz.underlying54 hi hz0 hz1 _ _ _ (n + 1) rfl rfl (by omega) (by rw [hz2]; omega) (by unfold maxLen; omega) hsz ?_)
   intro w4 hown hgr
   have hg4 := below_grown hgr
   have HG : Hid (Below w.heap.size w w4 /\ w4.ownsRow w.heap.size 47 2 (.slice (some ⟨w2.heap.size, 0, none⟩) 0 (n + 1)) 0 []) := ⟨HB.out.1.trans (hg4.mono hsz), hown⟩
   clear hown hgr hg4
   go_wp2_with fail
   have hsp := splitOnComma_any q 50 ⟨w4.heap.size, 0, none⟩ (PtI 54 w4.heap.size w PtRb) PtFb (fun w' => Below w.heap.size w w') (w4.alloc (Obj.cells #[.slice (some ⟨w2.heap.size, 0, none⟩) 0 (n + 1)] 54)) (by omega) (fun _ _ => rfl)
    (fun d p w' hI hp hd => mpointCl_any w4.heap.size w H.out.2 d p w' hI (by omega) (by omega)) (pt_start HG.out.1 HG.out.2)
   have HS := Lib.hid hsp
   clear hsp
   refine HS.out.mono ?_
   rintro e w5 (⟨rfl, v, ps, hc, hown, hall, hbel, -⟩ | ⟨t, u, rfl, hF, hJ⟩)
   ·have hcb : w5.cell? ⟨w4.heap.size, 0, none⟩ = some v := by rw [Joins.cell_of_block hc]; rfl
    obtain ⟨vA, vc, rfl⟩ := Row.shape hown
    have HE := Lib.hid (And.intro hown (And.intro hall hbel))
    clear hc hown hall hbel
    go_wp2_with fail
    go_returns
    exact ⟨HE.out.2.2, .inl ⟨_, ps, rfl, HE.out.1, .inr ⟨HF.out.2, r, HB.out.2, by rw [<- HQ.out]; exact HE.out.2.1⟩⟩⟩
   ·have HE := Lib.hid (And.intro hF hJ)
    clear hF hJ
    go_wp2_with fail
    go_returns
    exact ⟨HE.out.2, .inr ⟨_, t, u, rfl, HF.out.2, .inr ⟨r, HB.out.2, by rw [<- HQ.out]; exact HE.out.1⟩⟩⟩
  ·have HB : Hid (Below w.heap.size w w2 /\ brk ((ls s).drop 10) = none) := ⟨HF.out.1.trans (hb2.mono HF.out.1.size), by rw [<- HX.out]; exact hr⟩
   clear hb2 hr
   go_wp2_with fail
   go_returns
   exact ⟨HB.out.1, .inr ⟨_, t, v, rfl, HF.out.2, .inl HB.out.2⟩⟩
 ·go_wp2_with fail
  go_returns
  exact ⟨below_alloc HF.out.1 _, .inl ⟨_, [], rfl, row_lit w1 w.heap.size 47 2 0 [] HF.out.1.size rfl (by unfold maxLen; omega), .inl ⟨HF.out.2, rfl⟩⟩⟩
def Rws (B e : Nat) (w : World) (v : Value) (rss : List (List (Nat × Nat))) : Prop := ∃ vs, w.ownsRow B e 1 v rss.length vs /\ All2 (Pts B w) vs rss
def RingR (l : List UInt8) (ps : List (Nat × Nat)) : Prop := ∃ t, brk l = some t /\ LineR t ps
def RingF (l : List UInt8) : Prop := brk l = none \/ ∃ t, brk l = some t /\ LineF t
def RgI (T E b : Nat) (w0 : World) (d : List (List UInt8)) (w : World) : Prop :=
 ∃ v vs rss, w.heap[b]? = some (.cells #[v] T (0, 0)) /\ w.ownsRow w0.heap.size E 1 v rss.length vs /\ All2 (Pts w0.heap.size w) vs rss /\ All2 RingR d rss /\ Below w0.heap.size w0 w /\ w0.heap.size <= b
theorem info86 : (Tryz.prog.info? 86).map (fun i => (i.zero, i.size, i.bytes)) = some (some (.slice none 0 0), 1, 24) := by kernel_rfl
theorem info50 : (Tryz.prog.info? 50).map (fun i => (i.zero, i.size, i.bytes)) = some (some (.slice none 0 0), 1, 24) := by kernel_rfl
theorem Pts.kept {B base : Nat} {S : Nat -> Prop} {w w' : World} {v : Value} {ps : List (Nat × Nat)} (h : Pts B w v ps) (hk : Keep base S w w') (hS : ¬ S 47) : Pts B w' v ps := Row.kept h hk (.inr hS)
theorem Pts.below {B : Nat} {w w' : World} {v : Value} {ps : List (Nat × Nat)} (h : Pts B w v ps) (hb : Below w.heap.size w w') : Pts B w' v ps := Row.below h hb
theorem rg_next {T E b : Nat} {w0 w w5 w6 : World} {d : List (List UInt8)} {vs : List Value} {rss : List (List (Nat × Nat))} {p : List UInt8} {ps : List (Nat × Nat)} {v v' v5 : Value} (hb : w0.heap.size <= b) (hpts : All2 (Pts w0.heap.size w) vs rss) (hall : All2 RingR d rss) (hbel : Below w0.heap.size w0 w)
  (hbw : Below w.heap.size w w5) (hp5 : Pts w0.heap.size w5 v5 ps) (hr : RingR p ps) (k1 : Keep w0.heap.size (fun t => t = T \/ t = E) w5 w6) (hc : w6.heap[b]? = some (.cells #[v] T (0, 0)))
  (hown : w6.ownsRow w0.heap.size E 1 v' (rss.length + 1) (vs ++ [v5])) (hT : ¬ (47 = T)) (hE : ¬ (47 = E)) (hTE : ¬ (E = T)) :
  RgI T E b w0 (d ++ [p]) (w6.setCell ⟨b, 0, none⟩ v') /\ Keep w0.heap.size (fun t => t = T \/ t = E) w (w6.setCell ⟨b, 0, none⟩ v') := by
 have hk : Keep w0.heap.size (fun t => t = T) w6 (w6.setCell ⟨b, 0, none⟩ v') := Keep.setCell (S := fun t => t = T) (a := ⟨b, 0, none⟩) hc hb rfl v'
 have hk2 : Keep w0.heap.size (fun t => t = T \/ t = E) w5 (w6.setCell ⟨b, 0, none⟩ v') := k1.trans (hk.mono (Nat.le_refl _) (fun t h => .inl h))
 have hkw : Keep w0.heap.size (fun t => t = T \/ t = E) w (w6.setCell ⟨b, 0, none⟩ v') := (Keep.ofBelow hbw).trans hk2
 have hS : ¬ ((47 : Nat) = T \/ (47 : Nat) = E) := by rintro (h | h); exact hT h; exact hE h
 refine ⟨⟨v', vs ++ [v5], rss ++ [ps], ?_, ?_, ?_, hall.snoc hr, hbel.trans (hkw.below' hbel.size), hb⟩, hkw⟩
 ·rw [Joins.block_setCell (i := 0) hc]; rfl
 ·rw [List.length_append]; exact Row.kept hown hk (.inr hTE)
 ·exact (hpts.imp fun a c hac => Pts.kept hac hkw hS).snoc (Pts.kept hp5 hk2 hS)
theorem ring2_any (b : Nat) (w0 : World) (hre : RE w0) (d : List (List UInt8)) (p : ByteArray) (w : World) (hI : RgI 52 86 b w0 d w) (hp : p.size <= 1099511627776) (hd : d.length <= 1099511627776) :
  Calls Tryz.prog 48 #[.string p, .pointer (some ⟨b, 0, none⟩)] w (fun e w' => YPost (RgI 52 86 b w0) RingF (fun w' => Below w0.heap.size w0 w') d (ls p) e w' /\ Keep w0.heap.size (fun t => t = 52 \/ t = 86) w w') := by
 obtain ⟨v, vs, rss, hc, hown, hpts, hall, hbel, hb⟩ := hI
 have hlen := hall.len
 rw [hlen] at hd
 clear hlen
 have hbk := trimSpaceBrackets_any p w hp (hre.below hbel).env
 obtain ⟨i0, hi, hz0, hz1, hz2⟩ := info_parts info47
 obtain ⟨j0, hj, hy0, hy1, hy2⟩ := info_parts info86
 have H := Lib.hid (And.intro hbk (And.intro hc (And.intro hown (And.intro hpts (And.intro hall (And.intro hbel hre))))))
 clear hbk hc hown hpts hall hbel hre
 go_enter Tryz.func48, Tryz.ntmps48
 go_wp2_with fail
 refine H.out.1.mono ?_
 rintro e w2 ⟨hb2, ⟨r, hr, rfl⟩ | ⟨hr, t, u, rfl⟩⟩
 ·have hrl := brk_len hr
  rw [ls_length] at hrl
  obtain ⟨q, hq⟩ : ∃ q, bs r = q := ⟨_, rfl⟩
  have hql : ls q = r := by rw [<- hq, ls_bs]
  have hqs : q.size <= p.size := by rw [<- ls_length q, hql]; omega
  rw [hq]
  have HQ := Lib.hid hql
  have HB := Lib.hid (And.intro hb2 hr)
  have hsz := hb2.size
  clear hq hql hrl hb2 hr
  go_wp2_with fail
  refine (commas_any q w2 (by omega)).mono ?_
  rintro e w3 ⟨⟨n, hn, rfl⟩, rfl⟩
  go_wp2_with (at_make; refine wpList_make_own _ rfl _ _ 86 rfl w2.heap.size 47 i0 (.agg #[.float .f64 0, .float .f64 0]) 2 Tryz.underlying86 hi hz0 hz1 _ _ _ (n + 1) rfl rfl (by omega) (by rw [hz2]; omega) (by unfold maxLen; omega) (Nat.le_refl _) ?_)
  intro w4 hown4 hgr
  have hg4 := below_grown hgr
  have HG : Hid (Below w2.heap.size w2 w4 /\ w4.ownsRow w2.heap.size 47 2 (.slice (some ⟨w2.heap.size, 0, none⟩) 0 (n + 1)) 0 []) := ⟨hg4, hown4⟩
  have HR2 : Hid (RE w2) := (H.out.2.2.2.2.2.2.below H.out.2.2.2.2.2.1).below HB.out.1
  clear hown4 hgr hg4
  go_wp2_with fail
  have hsp := splitOnComma_any q 49 ⟨w4.heap.size, 0, none⟩ (PtI 86 w4.heap.size w2 PtR) (fun l => ptP l = none) (fun w' => Below w2.heap.size w2 w') (w4.alloc (Obj.cells #[.slice (some ⟨w2.heap.size, 0, none⟩) 0 (n + 1)] 86)) (by omega) (fun _ _ => rfl)
   (fun d p w' hI hp hd => ringCl_any w4.heap.size w2 HR2.out d p w' hI (by omega) (by omega)) (pt_start HG.out.1 HG.out.2)
  have HS := Lib.hid hsp
  clear hsp
  refine HS.out.mono ?_
  rintro e w5 (⟨rfl, v5, ps, hc5, hown5, hall5, hbel5, hb5⟩ | ⟨t, u, rfl, hF, hJ⟩)
  ·obtain ⟨A5, c5, rfl⟩ := Row.shape hown5
   have hbw : Below w.heap.size w w5 := HB.out.1.trans (hbel5.mono hsz)
   have hcb5 : w5.cell? ⟨w4.heap.size, 0, none⟩ = some (.slice A5 ps.length c5) := by rw [Joins.cell_of_block hc5]; rfl
   have hc1 : w5.heap[b]? = some (.cells #[v] 52 (0, 0)) := by rw [hbw.block _ (Array.getElem?_eq_some_iff.1 H.out.2.1).1]; exact H.out.2.1
   have hown1 := Row.below H.out.2.2.1 hbw
   have hcb : w5.cell? ⟨b, 0, none⟩ = some v := by rw [Joins.cell_of_block hc1]; rfl
   have hbs : b < w5.heap.size := (Array.getElem?_eq_some_iff.1 hc1).1
   have hne : ¬ b = w5.heap.size := by omega
   have hne' : ¬ w5.heap.size = b := by omega
   have hsz5 : w0.heap.size <= w5.heap.size := Nat.le_trans H.out.2.2.2.2.2.1.size hbw.size
   have H5 : Hid (Below w.heap.size w w5 /\ w5.heap[b]? = some (.cells #[v] 52 (0, 0)) /\ Pts w0.heap.size w5 (.slice A5 ps.length c5) ps /\ RingR (ls p) ps) := ⟨hbw, hc1, owns_mono hown5 (Nat.le_trans H.out.2.2.2.2.2.1.size hsz), r, HB.out.2, by rw [<- HQ.out]; exact hall5⟩
   clear hc5 hown5 hall5 hbel5 hb5 hbw hc1
   go_wp2_with (at_builtin; refine wpList_append_own _ rfl (.tmp 26) (.tmp 28) 52 rfl w0.heap.size 86 j0 (.slice none 0 0) 1 24 Tryz.underlying52 hj hy0 hy1 hy2 rfl (by decide) _ _ _ rfl (hown1.alloc _) ⟨w5.heap.size, 0, none⟩ 1 1 [.slice A5 ps.length c5] rfl rfl ?c1 ?c2 ?c3 ?c4 ?c5 ?_)
   case c1 => exact one_new (by simp)
   case c2 => exact one_cell rfl
   case c3 => unfold maxLen; omega
   case c4 => omega
   case c5 => simp; omega
   intro v' w6 hown6 hgrow6 hnn
   have k2 : Keep w0.heap.size (fun t => t = 52 \/ t = 86) _ w6 := Keep.grown (S := fun t => t = 52 \/ t = 86) (hown1.alloc _) hgrow6 (.inr rfl)
   have k2' : Keep w0.heap.size (fun t => t = 86) _ w6 := Keep.grown (S := fun t => t = 86) (hown1.alloc _) hgrow6 rfl
   have k1 : Keep w0.heap.size (fun t => t = 52 \/ t = 86) w5 w6 := (Keep.alloc _).trans k2
   have hc6 : w6.heap[b]? = some (.cells #[v] 52 (0, 0)) := ((Keep.alloc _).trans k2').cells H5.out.2.1 (.inl (by decide))
   have hcb6 : w6.cell? ⟨b, 0, none⟩ = some v := by rw [Joins.cell_of_block hc6]; rfl
   have ufb6 : w6.frozen? ⟨b, 0, none⟩ = false := Joins.unfrozen_of_block hc6 0
   obtain ⟨vA, vc, rfl⟩ := Row.shape hown6
   have HE : Hid (RgI 52 86 b w0 (d ++ [ls p]) (w6.setCell ⟨b, 0, none⟩ (.slice vA (rss.length + 1) vc)) /\ Keep w0.heap.size (fun t => t = 52 \/ t = 86) w (w6.setCell ⟨b, 0, none⟩ (.slice vA (rss.length + 1) vc))) :=
    rg_next hb H.out.2.2.2.1 H.out.2.2.2.2.1 H.out.2.2.2.2.2.1 H5.out.1 H5.out.2.2.1 H5.out.2.2.2 k1 hc6 hown6 (by decide) (by decide) (by decide)
   clear hown6 hgrow6 hnn k1 k2 k2' hc6 hown1
   go_wp2_with fail
   go_returns
   exact ⟨.inl ⟨rfl, HE.out.1⟩, HE.out.2⟩
  ·have HE : Hid (RingF (ls p) /\ Below w.heap.size w w5) := ⟨.inr ⟨r, HB.out.2, by rw [<- HQ.out]; exact hF⟩, HB.out.1.trans (hJ.mono hsz)⟩
   clear hF hJ
   go_wp2_with fail
   go_returns
   exact ⟨.inr ⟨t, u, rfl, HE.out.1, H.out.2.2.2.2.2.1.trans (HE.out.2.mono H.out.2.2.2.2.2.1.size)⟩, Keep.ofBelow HE.out.2⟩
 ·have HJ := Lib.hid (And.intro hb2 hr)
  clear hb2 hr
  go_wp2_with fail
  go_returns
  exact ⟨.inr ⟨t, u, rfl, .inl HJ.out.2, H.out.2.2.2.2.2.1.trans (HJ.out.1.mono H.out.2.2.2.2.2.1.size)⟩, Keep.ofBelow HJ.out.1⟩
end Go.Proofs.YtdfolbmoohcblaaGreatDoor
