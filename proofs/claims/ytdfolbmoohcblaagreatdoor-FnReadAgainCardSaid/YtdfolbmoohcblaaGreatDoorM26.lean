/-
For FnReadAgain, part 26: W9b.
-/
import Derived.Test.YtdfolbmoohcblaaGreatDoorM25
set_option linter.all false
namespace Go.Proofs.YtdfolbmoohcblaaGreatDoor
set_option maxHeartbeats 8000000
set_option maxRecDepth 100000
open Go.RowKit
theorem hex_none {l : List UInt8} {m : Nat} {exp : Int} {neg tr : Bool} {n : Nat} {us : Bool} (h : specialN l = none) (hr : readN l = some ⟨m, exp, neg, tr, true, n, us⟩) : atofP l = none := by
 unfold atofP
 rw [h, hr]
 simp
theorem atof_hex (s : ByteArray) (w : World) (hs : s.size <= 1099511627776) (hpe : PE w) (m : Nat) (exp : Int) (neg tr : Bool) (n : Nat) (us : Bool) (h : specialN (ls s) = none) (hr : readN (ls s) = some ⟨m, exp, neg, tr, true, n, us⟩) : Calls Tryz.prog 107 #[.string s] w (AtofPost (ls s) w) := by
 have hsp := special_any s w hs
 unfold SpecialPost at hsp
 rw [h] at hsp
 have hrd := readFloat_any s w hs
 unfold ReadPost at hrd
 rw [hr] at hrd
 obtain ⟨bn, bm, bdec, blo, bhi⟩ := readN_bd hr
 dsimp only at bn bm bdec blo bhi hrd
 rw [ls_length] at bn blo bhi
 have HN := Lib.hid (hex_none h hr)
 have HS := Lib.hid (And.intro hsp (And.intro h (And.intro hr (And.intro hrd (And.intro hpe bm)))))
 clear hsp h hr hrd hpe bdec bm
 go_enter Tryz.func107, Tryz.ntmps107
 go_wp2_with fail
 refine HS.out.1.mono ?_
 rintro e w' ⟨rfl, rfl⟩
 go_wp2_with fail
 refine HS.out.2.2.2.1.mono ?_
 rintro e w1 ⟨hb, rfl | ⟨hus, m', x, a, b, c, i, rfl⟩⟩
 ·have HW : Hid (RW s w w1) := ⟨hb, HS.out.2.2.2.2.1.below hb⟩
  clear hb
  go_wp2_with fail
  have hh := atofHex_any (s.extract 0 n) m exp neg tr w1 HW.out.pe.inf HS.out.2.2.2.2.2 (by omega) (by omega)
  refine hh.mono ?_
  clear hh
  rintro e w2 ⟨⟨nn, rfl⟩, x, hv, rfl | rfl⟩
  ·have HV := Lib.hid hv
   clear hv
   go_wp2_with fail
   go_returns
   exact ⟨HW.out.b.trans ⟨rfl, rfl, rfl, Nat.le_refl _, fun _ _ => rfl⟩, .inl (good_none HN.out HV.out (by rw [ls_length]; exact bn))⟩
  ·go_wp2_with fail
   go_returns
   exact ⟨HW.out.b.trans ⟨rfl, rfl, rfl, Nat.le_refl _, fun _ _ => rfl⟩, .inr ⟨HN.out, x, n, 1, .inl rfl, rfl⟩⟩
 ·have HB := Lib.hid hb
  clear hb hus
  go_wp2_with fail
  go_returns
  exact ⟨HB.out, .inr ⟨HN.out, 0, i, 2, .inr rfl, rfl⟩⟩
theorem atof64_any (s : ByteArray) (w : World) (hs : s.size <= 1099511627776) (hpe : PE w) : Calls Tryz.prog 107 #[.string s] w (AtofPost (ls s) w) := by
 cases h : specialN (ls s) with
 | some r => obtain ⟨x, n⟩ := r; exact atof_special s w hs x n h
 | none =>
  cases hr : readN (ls s) with
  | none => exact atof_fail s w hs h hr
  | some r =>
   obtain ⟨m, exp, neg, tr, hex, n, us⟩ := r
   cases hex
   ·exact atof_dec s w hs hpe m exp neg tr n us h hr
   ·exact atof_hex s w hs hpe m exp neg tr n us h hr
theorem prefix_any (s : ByteArray) (w : World) (hs : s.size <= 1099511627776) (hpe : PE w) : Calls Tryz.prog 85 #[.string s, .int .i64 64] w (AtofPost (ls s) w) := by
 have H := Lib.hid (atof64_any s w hs hpe)
 clear hpe
 go_enter Tryz.func85, Tryz.ntmps85
 go_wp2_with fail
 refine H.out.mono ?_
 rintro e w1 ⟨hb, ⟨x, n, hv, hn, rfl, hp⟩ | ⟨hp, x, n, v, hv, rfl⟩⟩
 ·have HB := Lib.hid (And.intro hb (And.intro hv (And.intro hn hp)))
  clear hb hv hn hp
  go_wp2_with fail
  go_returns
  exact ⟨HB.out.1, .inl ⟨x, n, HB.out.2.1, HB.out.2.2.1, rfl, HB.out.2.2.2⟩⟩
 ·have HB := Lib.hid (And.intro hb (And.intro hv hp))
  clear hb hv hp
  go_wp2_with fail
  go_returns
  exact ⟨HB.out.1, .inr ⟨HB.out.2.2, x, n, v, HB.out.2.1, rfl⟩⟩
def pfP (l : List UInt8) : Option Nat := match atofP l with
 | some (x, n) => if n = l.length then some x else none
 | none => none
def PfPost0 (l : List UInt8) (w : World) (e' : Ending) (w' : World) : Prop :=
 Below w.heap.size w w' /\ ((∃ x, VN x /\ e' = .returned (.tuple #[.float .f64 x, .nilIface]) /\ ∀ y, pfP l = some y -> y = x) \/ (pfP l = none /\ ∃ (x : Nat) (v : Int), (v = 1 \/ v = 2) /\ e' = .returned (.tuple #[.float .f64 x, .iface 150 (.int .i64 v)])))
theorem iParseFloat_any (s : ByteArray) (w : World) (hs : s.size <= 1099511627776) (hpe : PE w) : Calls Tryz.prog 76 #[.string s, .int .i64 64] w (PfPost0 (ls s) w) := by
 have H := Lib.hid (prefix_any s w hs hpe)
 clear hpe
 go_enter Tryz.func76, Tryz.ntmps76
 go_wp2_with fail
 refine H.out.mono ?_
 rintro e w1 ⟨hb, ⟨x, n, hv, hn, rfl, hp⟩ | ⟨hp, x, n, v, hv, rfl⟩⟩
 ·have HB := Lib.hid (And.intro hb (And.intro hv (And.intro hn hp)))
  clear hb hv hn hp
  by_cases hnl : n = s.size
  ·have b1 : ((n : Int) != s.size) = false := by rw [bne_eq_false_iff_eq]; omega
   clear hnl
   go_wp2_with fail
   go_returns
   refine ⟨HB.out.1, .inl ⟨x, HB.out.2.1, rfl, fun y hy => ?_⟩⟩
   unfold pfP at hy
   cases ha : atofP (ls s) with
   | none => rw [ha] at hy; cases hy
   | some r =>
    have := HB.out.2.2.2 r ha
    subst this
    rw [ha] at hy
    simp only [] at hy
    split at hy
    ·cases hy; rfl
    ·cases hy
  ·have b1 : ((n : Int) != s.size) = true := by rw [bne_iff_ne]; omega
   have HN := Lib.hid hnl
   clear hnl
   go_wp2_with fail
   go_returns
   refine ⟨HB.out.1, .inr ⟨?_, 0, 2, .inr rfl, rfl⟩⟩
   unfold pfP
   cases ha : atofP (ls s) with
   | none => rfl
   | some r =>
    have := HB.out.2.2.2 r ha
    subst this
    simp only []
    exact if_neg (by rw [ls_length]; exact HN.out)
 ·have HB : Hid (Below w.heap.size w w1 /\ (v = 1 \/ v = 2) /\ pfP (ls s) = none) := ⟨hb, hv, by unfold pfP; rw [hp]⟩
  clear hb hv hp
  by_cases hnl : n = (s.size : Int)
  ·have b1 : (n != (s.size : Int)) = false := by rw [bne_eq_false_iff_eq]; omega
   clear hnl
   go_wp2_with fail
   go_returns
   exact ⟨HB.out.1, .inr ⟨HB.out.2.2, x, v, HB.out.2.1, rfl⟩⟩
  ·have b1 : (n != (s.size : Int)) = true := by rw [bne_iff_ne]; omega
   clear hnl
   go_wp2_with fail
   go_returns
   exact ⟨HB.out.1, .inr ⟨HB.out.2.2, 0, 2, .inr rfl, rfl⟩⟩
end Go.Proofs.YtdfolbmoohcblaaGreatDoor
