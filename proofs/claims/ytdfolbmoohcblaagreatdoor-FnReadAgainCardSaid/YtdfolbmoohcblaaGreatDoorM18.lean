/-
For FnReadAgain, part 18: W5l.
-/
import Derived.Test.YtdfolbmoohcblaaGreatDoorM17
set_option linter.all false
namespace Go.Proofs.YtdfolbmoohcblaaGreatDoor
set_option maxHeartbeats 4000000
set_option maxRecDepth 100000
open Go.RowKit
theorem readFloat_hex (s : ByteArray) (w : World) (hs : s.size <= 1099511627776) (h0 : 0 < s.size) (hh0 : isHex ((ls s).drop (sgnLen (ls s))) = true) : Calls Tryz.prog 134 #[.string s] w (ReadPost (ls s) w) := by
 have hg := Lib.hid (fun k h => ls_getElem? s k h)
 have hh1 := Lib.hid hh0
 clear hh0
 have hne : decide (s = ByteArray.empty) = false := decide_eq_false (by rintro rfl; exact absurd h0 (by decide))
 go_enter Tryz.func134, Tryz.ntmps134
 go_upto_block 0 with (go_step3)
 go_cut [4, 7] from 21 (fun s4 s7 wx => Cut1 (ls s) w s4 s7 wx)
 case first =>
  have hl0 : (ls s).head? = some s[0] := by rw [List.head?_eq_getElem?]; exact hg.out 0 h0
  by_cases c43 : s[0] = 43
  ·have b43 : ((s[0].toNat : Int) == 43) = true := int_eq' (n := 43) (by decide) c43
   have HM := Lib.hid (show Cut1 (ls s) w (.bool false) (.int .i64 1) w by unfold Cut1 sgnLen; rw [hl0, c43]; exact ⟨rfl, rfl, rfl⟩)
   clear c43 hl0
   go_wp2_with fail
   go_meet
   exact HM.out
  ·have b43 : ((s[0].toNat : Int) == 43) = false := int_ne' (n := 43) (by decide) c43
   by_cases c45 : s[0] = 45
   ·have b45 : ((s[0].toNat : Int) == 45) = true := int_eq' (n := 45) (by decide) c45
    have HM := Lib.hid (show Cut1 (ls s) w (.bool true) (.int .i64 1) w by unfold Cut1 sgnLen; rw [hl0, c45]; exact ⟨rfl, rfl, rfl⟩)
    clear c43 hl0 c45
    go_wp2_with fail
    go_meet
    exact HM.out
   ·have b45 : ((s[0].toNat : Int) == 45) = false := int_ne' (n := 45) (by decide) c45
    have HM := Lib.hid (show Cut1 (ls s) w (.bool false) (.int .i64 0) w by
     unfold Cut1 sgnLen; rw [hl0, if_neg (by simp [c43, c45])]
     exact ⟨by simp [c45], rfl, rfl⟩)
    clear c43 hl0 c45
    go_wp2_with fail
    go_meet
    exact HM.out
 case rest =>
  obtain ⟨rfl, rfl, rfl⟩ := hcut
  have hj : sgnLen (ls s) <= 1 := by unfold sgnLen; split <;> omega
  have hjs : sgnLen (ls s) <= s.size := by omega
  obtain ⟨j, hj0⟩ : ∃ j, sgnLen (ls s) = j := ⟨_, rfl⟩
  rw [hj0] at hj hjs
  rw [hj0]
  obtain ⟨neg, hneg⟩ : ∃ neg : Bool, decide ((ls s).head? = some 45) = neg := ⟨_, rfl⟩
  rw [hneg]
  have HJ := Lib.hid (And.intro hj0 hneg)
  clear hj0 hneg hne
  have hlow := fun c w => lower_any c w
  go_upto_region 12 with fail
  go_cut [54] from 36 (fun s54 wx => s54 = .bool (isHex ((ls s).drop j)) /\ wx = wc)
  case first =>
   by_cases c1 : j + 2 < s.size
   ·have he := isHex_at s j c1
    by_cases c2 : s[j] = 48
    ·have b2 : ((s[j].toNat : Int) == 48) = true := int_eq' (n := 48) (by decide) c2
     have HE := Lib.hid (show isHex ((ls s).drop j) = ((lo s[j+1] : Int) == 120) by
      rw [he, c2]
      simp only [beq_self_eq_true, Bool.true_and]
      rw [Bool.eq_iff_iff, beq_iff_eq]; constructor
      ·intro h; rw [Nat.eq_of_beq_eq_true h]; rfl
      ·intro h; rw [show lo s[j+1] = 120 from by omega]; rfl)
     clear he c2
     go_wp2_with (go_at_call 114; refine (hlow _ _).mono ?_; rintro e w' ⟨rfl, rfl⟩)
     go_meet
     exact ⟨congrArg Value.bool HE.out.symm, rfl⟩
    ·have b2 : ((s[j].toNat : Int) == 48) = false := int_ne' (n := 48) (by decide) c2
     have HE := Lib.hid (show isHex ((ls s).drop j) = false by rw [he, beq_eq_false_iff_ne.2 c2]; rfl)
     clear he c2
     go_wp2_with fail
     go_meet
     exact ⟨congrArg Value.bool HE.out.symm, rfl⟩
   ·have HE := Lib.hid (isHex_no s j (by omega))
    go_wp2_with fail
    go_meet
    exact ⟨congrArg Value.bool HE.out.symm, rfl⟩
  case rest =>
   obtain ⟨rfl, rfl⟩ := hcut
   have hhex : isHex ((ls s).drop j) = true := by rw [<- HJ.out.1]; exact hh1.out
   rw [hhex]
   have HH := Lib.hid hhex
   go_upto_block 1 with (go_step3)
   have hJ : j + 2 <= s.size := by exact hex2 s j HH.out
   go_step
   refine loop_FH_L s hs neg (j + 2) hJ _ _ _ rfl ?_
   intro pos st x' hL
   go_step
   go_step
   refine tail_FH s hs neg j (j + 2) pos st x' _ _ HJ.out.1 HH.out rfl hL HJ.out.2.symm ?_
   intro a ha
   exact read_ret ha
theorem readFloat_any (s : ByteArray) (w : World) (hs : s.size <= 1099511627776) : Calls Tryz.prog 134 #[.string s] w (ReadPost (ls s) w) := by
 by_cases h0 : 0 < s.size
 ·cases hh : isHex ((ls s).drop (sgnLen (ls s)))
  ·exact readFloat_dec s w hs h0 hh
  ·exact readFloat_hex s w hs h0 hh
 ·have hl : ls s = [] := List.eq_nil_of_length_eq_zero (by rw [ls_length]; omega)
  have he : s = ByteArray.empty := ls_inj (by rw [hl]; rfl)
  subst he
  go_enter Tryz.func134, Tryz.ntmps134
  go_wp2_with (go_step3)
  show bodyPost Tryz.prog Tryz.f134 (ReadPost _ w) .ret _ w
  go_returns
  exact ⟨Below.refl _ _, ⟨_, _, _, _, _, _, rfl⟩⟩
end Go.Proofs.YtdfolbmoohcblaaGreatDoor
