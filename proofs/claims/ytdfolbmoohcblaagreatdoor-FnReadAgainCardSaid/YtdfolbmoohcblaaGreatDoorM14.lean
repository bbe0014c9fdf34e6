/-
For FnReadAgain, part 14: W5h.
-/
import Derived.Test.YtdfolbmoohcblaaGreatDoorM13
set_option linter.all false
namespace Go.Proofs.YtdfolbmoohcblaaGreatDoor
set_option maxHeartbeats 4000000
set_option maxRecDepth 100000
open Go.RowKit
variable (s : ByteArray) (hs : s.size <= 1099511627776) (neg us : Bool) (m : Nat) (nd ndm : Nat) (dp : Int) (tr : Bool) (pos : Nat) (x : Nat -> Value) (w : World) (Q : Exit -> Act -> World -> Prop) (hpl : pos <= s.size) (i1 : nd <= pos) (i2 : -(pos : Int) <= dp) (i3 : dp <= pos) (i4 : ndm <= 19) (i6 : ndm <= nd)
 include hs hpl i1 i2 i3 i4 i6
theorem td_int_nodig
  (hQ : ∀ a, RBad a -> Q .ret a w) :
  Code.wp Tryz.prog tailR Q (FD s neg us m false false nd ndm dp tr pos x) w := by
 conv => arg 2; whnf
 have HQ := Lib.hid hQ
 clear hQ
 unfold FD
 go_wp2_with (go_at_call 114; refine (hlow2 _).mono ?_; rintro e w' ⟨rfl, rfl⟩)
 all_goals exact HQ.out _ ⟨_, _, _, _, _, _, rfl, rfl, rfl, rfl, rfl, rfl, rfl⟩
theorem td_int_end (hp : ¬ pos < s.size)
  (hQ : us = true -> ∀ a, RBad a -> Q .ret a w) (hS : ∀ a, RSl a m (if m = 0 then 0 else (nd : Int) - (ndm : Int)) neg tr false pos true -> Q .ret a w) :
  Code.wp Tryz.prog tailR Q (FD s neg us m false true nd ndm dp tr pos x) w := by
 conv => arg 2; whnf
 have hund := fun b w hb => underscore_any b w hb
 unfold FD
 by_cases hm : m = 0
 ·have bm : ((m : Int) != 0) = false := by rw [bne_eq_false_iff_eq]; omega
  rw [if_pos hm] at hS
  have HS := Lib.hid hS
  have HQ := Lib.hid hQ
  clear hS hQ
  subst hm
  cases us
  ·go_wp2_with (go_at_call 114; refine (hlow2 _).mono ?_; rintro e w' ⟨rfl, rfl⟩)
   all_goals exact HS.out _ (rsl_eq ⟨rfl, rfl, rfl, rfl, rfl, rfl, rfl⟩ (by omega) (by omega))
  ·go_wp2_with (first | (go_at_call 114; refine (hlow2 _).mono ?_; rintro e w' ⟨rfl, rfl⟩) | (go_at_call 155; refine (hund _ _ (by rw [ByteArray.size_extract]; omega)).mono ?_; rintro e w' ⟨⟨b, rfl⟩, rfl⟩))
   all_goals first | (exact HS.out _ (rsl_eq ⟨rfl, rfl, rfl, rfl, rfl, rfl, rfl⟩ (by omega) (by omega))) | (exact HQ.out (by simp) _ ⟨_, _, _, _, _, _, rfl, rfl, rfl, rfl, rfl, rfl, rfl⟩)
 ·have bm : ((m : Int) != 0) = true := by rw [bne_iff_ne]; omega
  rw [if_neg hm] at hS
  have HS := Lib.hid hS
  have HQ := Lib.hid hQ
  clear hS hQ
  clear hm
  cases us
  ·go_wp2_with (go_at_call 114; refine (hlow2 _).mono ?_; rintro e w' ⟨rfl, rfl⟩)
   all_goals exact HS.out _ (rsl_eq ⟨rfl, rfl, rfl, rfl, rfl, rfl, rfl⟩ (by omega) (by omega))
  ·go_wp2_with (first | (go_at_call 114; refine (hlow2 _).mono ?_; rintro e w' ⟨rfl, rfl⟩) | (go_at_call 155; refine (hund _ _ (by rw [ByteArray.size_extract]; omega)).mono ?_; rintro e w' ⟨⟨b, rfl⟩, rfl⟩))
   all_goals first | (exact HS.out _ (rsl_eq ⟨rfl, rfl, rfl, rfl, rfl, rfl, rfl⟩ (by omega) (by omega))) | (exact HQ.out (by simp) _ ⟨_, _, _, _, _, _, rfl, rfl, rfl, rfl, rfl, rfl, rfl⟩)
theorem td_int_other (c : UInt8) (hp : pos < s.size) (hcc : s[pos] = c) (hE : lo c ≠ 101)
  (hQ : us = true -> ∀ a, RBad a -> Q .ret a w) (hS : ∀ a, RSl a m (if m = 0 then 0 else (nd : Int) - (ndm : Int)) neg tr false pos true -> Q .ret a w) :
  Code.wp Tryz.prog tailR Q (FD s neg us m false true nd ndm dp tr pos x) w := by
 conv => arg 2; whnf
 have hlow2 := low2 hcc
 have hlo8 := lo_lt c
 generalize lo c = L at hlow2 hlo8 hE
 have bE : ((L : Int) == 101) = false := by rw [beq_eq_false_iff_ne]; omega
 clear hE hcc
 have hund := fun b w hb => underscore_any b w hb
 unfold FD
 by_cases hm : m = 0
 ·have bm : ((m : Int) != 0) = false := by rw [bne_eq_false_iff_eq]; omega
  rw [if_pos hm] at hS
  have HS := Lib.hid hS
  have HQ := Lib.hid hQ
  clear hS hQ
  subst hm
  cases us
  ·go_wp2_with (go_at_call 114; refine (hlow2 _).mono ?_; rintro e w' ⟨rfl, rfl⟩)
   all_goals exact HS.out _ (rsl_eq ⟨rfl, rfl, rfl, rfl, rfl, rfl, rfl⟩ (by omega) (by omega))
  ·go_wp2_with (first | (go_at_call 114; refine (hlow2 _).mono ?_; rintro e w' ⟨rfl, rfl⟩) | (go_at_call 155; refine (hund _ _ (by rw [ByteArray.size_extract]; omega)).mono ?_; rintro e w' ⟨⟨b, rfl⟩, rfl⟩))
   all_goals first | (exact HS.out _ (rsl_eq ⟨rfl, rfl, rfl, rfl, rfl, rfl, rfl⟩ (by omega) (by omega))) | (exact HQ.out (by simp) _ ⟨_, _, _, _, _, _, rfl, rfl, rfl, rfl, rfl, rfl, rfl⟩)
 ·have bm : ((m : Int) != 0) = true := by rw [bne_iff_ne]; omega
  rw [if_neg hm] at hS
  have HS := Lib.hid hS
  have HQ := Lib.hid hQ
  clear hS hQ
  clear hm
  cases us
  ·go_wp2_with (go_at_call 114; refine (hlow2 _).mono ?_; rintro e w' ⟨rfl, rfl⟩)
   all_goals exact HS.out _ (rsl_eq ⟨rfl, rfl, rfl, rfl, rfl, rfl, rfl⟩ (by omega) (by omega))
  ·go_wp2_with (first | (go_at_call 114; refine (hlow2 _).mono ?_; rintro e w' ⟨rfl, rfl⟩) | (go_at_call 155; refine (hund _ _ (by rw [ByteArray.size_extract]; omega)).mono ?_; rintro e w' ⟨⟨b, rfl⟩, rfl⟩))
   all_goals first | (exact HS.out _ (rsl_eq ⟨rfl, rfl, rfl, rfl, rfl, rfl, rfl⟩ (by omega) (by omega))) | (exact HQ.out (by simp) _ ⟨_, _, _, _, _, _, rfl, rfl, rfl, rfl, rfl, rfl, rfl⟩)
theorem td_int_bad1 (c : UInt8) (hp : pos < s.size) (hcc : s[pos] = c) (hE : lo c = 101) (hp1 : ¬ pos + 1 < s.size)
  (hQ : ∀ a, RBad a -> Q .ret a w) :
  Code.wp Tryz.prog tailR Q (FD s neg us m false true nd ndm dp tr pos x) w := by
 conv => arg 2; whnf
 have hlow2 := low2 hcc
 have hlo8 := lo_lt c
 generalize lo c = L at hlow2 hlo8 hE
 have bE : ((L : Int) == 101) = true := by rw [beq_iff_eq]; omega
 clear hE hcc
 have HQ := Lib.hid hQ
 clear hQ
 unfold FD
 go_wp2_with (go_at_call 114; refine (hlow2 _).mono ?_; rintro e w' ⟨rfl, rfl⟩)
 all_goals exact HQ.out _ ⟨_, _, _, _, _, _, rfl, rfl, rfl, rfl, rfl, rfl, rfl⟩
theorem td_int_plus_end (c c1 : UInt8) (hp : pos < s.size) (hcc : s[pos] = c) (hE : lo c = 101) (hp1 : pos + 1 < s.size) (hcc1 : s[pos + 1] = c1) (h1 : c1 = 43) (hp2 : ¬ pos + 1 + 1 < s.size)
  (hQ : ∀ a, RBad a -> Q .ret a w) :
  Code.wp Tryz.prog tailR Q (FD s neg us m false true nd ndm dp tr pos x) w := by
 conv => arg 2; whnf
 have hlow2 := low2 hcc
 have hlo8 := lo_lt c
 generalize lo c = L at hlow2 hlo8 hE
 have bE : ((L : Int) == 101) = true := by rw [beq_iff_eq]; omega
 have b43 : ((s[pos + 1].toNat : Int) == 43) = true := by rw [hcc1]; exact int_eq' (n := 43) (by decide) h1
 clear hE hcc hcc1 h1
 have HQ := Lib.hid hQ
 clear hQ
 unfold FD
 go_wp2_with (go_at_call 114; refine (hlow2 _).mono ?_; rintro e w' ⟨rfl, rfl⟩)
 all_goals exact HQ.out _ ⟨_, _, _, _, _, _, rfl, rfl, rfl, rfl, rfl, rfl, rfl⟩
theorem td_int_minus_end (c c1 : UInt8) (hp : pos < s.size) (hcc : s[pos] = c) (hE : lo c = 101) (hp1 : pos + 1 < s.size) (hcc1 : s[pos + 1] = c1) (h1 : c1 = 45) (hp2 : ¬ pos + 1 + 1 < s.size)
  (hQ : ∀ a, RBad a -> Q .ret a w) :
  Code.wp Tryz.prog tailR Q (FD s neg us m false true nd ndm dp tr pos x) w := by
 conv => arg 2; whnf
 have hlow2 := low2 hcc
 have hlo8 := lo_lt c
 generalize lo c = L at hlow2 hlo8 hE
 have bE : ((L : Int) == 101) = true := by rw [beq_iff_eq]; omega
 have b43 : ((s[pos + 1].toNat : Int) == 43) = false := by rw [hcc1, h1]; decide
 have b45 : ((s[pos + 1].toNat : Int) == 45) = true := by rw [hcc1]; exact int_eq' (n := 45) (by decide) h1
 clear hE hcc hcc1 h1
 have HQ := Lib.hid hQ
 clear hQ
 unfold FD
 go_wp2_with (go_at_call 114; refine (hlow2 _).mono ?_; rintro e w' ⟨rfl, rfl⟩)
 all_goals exact HQ.out _ ⟨_, _, _, _, _, _, rfl, rfl, rfl, rfl, rfl, rfl, rfl⟩
theorem td_int_plus_lo (c c1 : UInt8) (hp : pos < s.size) (hcc : s[pos] = c) (hE : lo c = 101) (hp1 : pos + 1 < s.size) (hcc1 : s[pos + 1] = c1) (h1 : c1 = 43) (hp2 : pos + 1 + 1 < s.size) (d : UInt8) (hdd : s[pos + 1 + 1] = d) (hd : d.toNat < 48)
  (hQ : ∀ a, RBad a -> Q .ret a w) :
  Code.wp Tryz.prog tailR Q (FD s neg us m false true nd ndm dp tr pos x) w := by
 conv => arg 2; whnf
 have hlow2 := low2 hcc
 have hlo8 := lo_lt c
 generalize lo c = L at hlow2 hlo8 hE
 have bE : ((L : Int) == 101) = true := by rw [beq_iff_eq]; omega
 have b43 : ((s[pos + 1].toNat : Int) == 43) = true := by rw [hcc1]; exact int_eq' (n := 43) (by decide) h1
 have hdn : (s[pos + 1 + 1].toNat : Int) = d.toNat := by rw [hdd]
 have g2 : (s[pos + 1 + 1].toNat : Int) < 48 := by omega
 clear hE hcc hcc1 h1 hdd hdn
 have HQ := Lib.hid hQ
 clear hQ
 unfold FD
 go_wp2_with (go_at_call 114; refine (hlow2 _).mono ?_; rintro e w' ⟨rfl, rfl⟩)
 all_goals exact HQ.out _ ⟨_, _, _, _, _, _, rfl, rfl, rfl, rfl, rfl, rfl, rfl⟩
theorem td_int_plus_hi (c c1 : UInt8) (hp : pos < s.size) (hcc : s[pos] = c) (hE : lo c = 101) (hp1 : pos + 1 < s.size) (hcc1 : s[pos + 1] = c1) (h1 : c1 = 43) (hp2 : pos + 1 + 1 < s.size) (d : UInt8) (hdd : s[pos + 1 + 1] = d) (hd : 57 < d.toNat)
  (hQ : ∀ a, RBad a -> Q .ret a w) :
  Code.wp Tryz.prog tailR Q (FD s neg us m false true nd ndm dp tr pos x) w := by
 conv => arg 2; whnf
 have hlow2 := low2 hcc
 have hlo8 := lo_lt c
 generalize lo c = L at hlow2 hlo8 hE
 have bE : ((L : Int) == 101) = true := by rw [beq_iff_eq]; omega
 have b43 : ((s[pos + 1].toNat : Int) == 43) = true := by rw [hcc1]; exact int_eq' (n := 43) (by decide) h1
 have hdn : (s[pos + 1 + 1].toNat : Int) = d.toNat := by rw [hdd]
 have g2 : ¬ (s[pos + 1 + 1].toNat : Int) < 48 := by omega
 have g3 : 57 < (s[pos + 1 + 1].toNat : Int) := by omega
 clear hE hcc hcc1 h1 hdd hdn
 have HQ := Lib.hid hQ
 clear hQ
 unfold FD
 go_wp2_with (go_at_call 114; refine (hlow2 _).mono ?_; rintro e w' ⟨rfl, rfl⟩)
 all_goals exact HQ.out _ ⟨_, _, _, _, _, _, rfl, rfl, rfl, rfl, rfl, rfl, rfl⟩
theorem td_int_plus_go (c c1 : UInt8) (hp : pos < s.size) (hcc : s[pos] = c) (hE : lo c = 101) (hp1 : pos + 1 < s.size) (hcc1 : s[pos + 1] = c1) (h1 : c1 = 43) (hp2 : pos + 1 + 1 < s.size) (d : UInt8) (hdd : s[pos + 1 + 1] = d) (hd1 : 48 <= d.toNat) (hd2 : d.toNat <= 57)
  (hQ : ∀ p e u, ELe us (ls s) (pos + 1 + 1) p e u -> u = true -> ∀ a, RBad a -> Q .ret a w) (hS : ∀ p e u, ELe us (ls s) (pos + 1 + 1) p e u -> ∀ a, RSl a m (if m = 0 then 0 else (nd : Int) + ((e : Nat) : Int) * 1 - (ndm : Int)) neg tr false (p : Nat) true -> Q .ret a w) :
  Code.wp Tryz.prog tailR Q (FD s neg us m false true nd ndm dp tr pos x) w := by
 conv => arg 2; whnf
 have hlow2 := low2 hcc
 have hlo8 := lo_lt c
 generalize lo c = L at hlow2 hlo8 hE
 have bE : ((L : Int) == 101) = true := by rw [beq_iff_eq]; omega
 have b43 : ((s[pos + 1].toNat : Int) == 43) = true := by rw [hcc1]; exact int_eq' (n := 43) (by decide) h1
 have hdn : (s[pos + 1 + 1].toNat : Int) = d.toNat := by rw [hdd]
 have g2 : ¬ (s[pos + 1 + 1].toNat : Int) < 48 := by omega
 have g3 : ¬ 57 < (s[pos + 1 + 1].toNat : Int) := by omega
 clear hE hcc hcc1 h1 hdd hdn
 have hund := fun b w hb => underscore_any b w hb
 unfold FD
 go_wp2_with (go_at_call 114; refine (hlow2 _).mono ?_; rintro e w' ⟨rfl, rfl⟩)
 refine FE_loop s hs _ _ _ _ _ _ _ _ _ _ us (pos + 1 + 1) (by omega) _ _ _ rfl ?_
 intro p e u x' hE
 have hQ := hQ p e u hE
 have hS := hS p e u hE
 have hp3 := hE.pl
 have hp4 := hE.pp
 have he1 := hE.e
 rw [ls_length] at hp3
 clear hE
 unfold FE
 by_cases hm : m = 0
 ·have bm : ((m : Int) != 0) = false := by rw [bne_eq_false_iff_eq]; omega
  rw [if_pos hm] at hS
  have HS := Lib.hid hS
  have HQ := Lib.hid hQ
  clear hS hQ
  subst hm
  cases u
  ·go_wp2_with (go_at_call 114; refine (hlow2 _).mono ?_; rintro e w' ⟨rfl, rfl⟩)
   all_goals exact HS.out _ (rsl_eq ⟨rfl, rfl, rfl, rfl, rfl, rfl, rfl⟩ (by omega) (by omega))
  ·go_wp2_with (first | (go_at_call 114; refine (hlow2 _).mono ?_; rintro e w' ⟨rfl, rfl⟩) | (go_at_call 155; refine (hund _ _ (by rw [ByteArray.size_extract]; omega)).mono ?_; rintro e w' ⟨⟨b, rfl⟩, rfl⟩))
   all_goals first | (exact HS.out _ (rsl_eq ⟨rfl, rfl, rfl, rfl, rfl, rfl, rfl⟩ (by omega) (by omega))) | (exact HQ.out (by simp) _ ⟨_, _, _, _, _, _, rfl, rfl, rfl, rfl, rfl, rfl, rfl⟩)
 ·have bm : ((m : Int) != 0) = true := by rw [bne_iff_ne]; omega
  rw [if_neg hm] at hS
  have HS := Lib.hid hS
  have HQ := Lib.hid hQ
  clear hS hQ
  clear hm
  cases u
  ·go_wp2_with (go_at_call 114; refine (hlow2 _).mono ?_; rintro e w' ⟨rfl, rfl⟩)
   all_goals exact HS.out _ (rsl_eq ⟨rfl, rfl, rfl, rfl, rfl, rfl, rfl⟩ (by omega) (by omega))
  ·go_wp2_with (first | (go_at_call 114; refine (hlow2 _).mono ?_; rintro e w' ⟨rfl, rfl⟩) | (go_at_call 155; refine (hund _ _ (by rw [ByteArray.size_extract]; omega)).mono ?_; rintro e w' ⟨⟨b, rfl⟩, rfl⟩))
   all_goals first | (exact HS.out _ (rsl_eq ⟨rfl, rfl, rfl, rfl, rfl, rfl, rfl⟩ (by omega) (by omega))) | (exact HQ.out (by simp) _ ⟨_, _, _, _, _, _, rfl, rfl, rfl, rfl, rfl, rfl, rfl⟩)
theorem td_int_minus_lo (c c1 : UInt8) (hp : pos < s.size) (hcc : s[pos] = c) (hE : lo c = 101) (hp1 : pos + 1 < s.size) (hcc1 : s[pos + 1] = c1) (h1 : c1 = 45) (hp2 : pos + 1 + 1 < s.size) (d : UInt8) (hdd : s[pos + 1 + 1] = d) (hd : d.toNat < 48)
  (hQ : ∀ a, RBad a -> Q .ret a w) :
  Code.wp Tryz.prog tailR Q (FD s neg us m false true nd ndm dp tr pos x) w := by
 conv => arg 2; whnf
 have hlow2 := low2 hcc
 have hlo8 := lo_lt c
 generalize lo c = L at hlow2 hlo8 hE
 have bE : ((L : Int) == 101) = true := by rw [beq_iff_eq]; omega
 have b43 : ((s[pos + 1].toNat : Int) == 43) = false := by rw [hcc1, h1]; decide
 have b45 : ((s[pos + 1].toNat : Int) == 45) = true := by rw [hcc1]; exact int_eq' (n := 45) (by decide) h1
 have hdn : (s[pos + 1 + 1].toNat : Int) = d.toNat := by rw [hdd]
 have g2 : (s[pos + 1 + 1].toNat : Int) < 48 := by omega
 clear hE hcc hcc1 h1 hdd hdn
 have HQ := Lib.hid hQ
 clear hQ
 unfold FD
 go_wp2_with (go_at_call 114; refine (hlow2 _).mono ?_; rintro e w' ⟨rfl, rfl⟩)
 all_goals exact HQ.out _ ⟨_, _, _, _, _, _, rfl, rfl, rfl, rfl, rfl, rfl, rfl⟩
theorem td_int_minus_hi (c c1 : UInt8) (hp : pos < s.size) (hcc : s[pos] = c) (hE : lo c = 101) (hp1 : pos + 1 < s.size) (hcc1 : s[pos + 1] = c1) (h1 : c1 = 45) (hp2 : pos + 1 + 1 < s.size) (d : UInt8) (hdd : s[pos + 1 + 1] = d) (hd : 57 < d.toNat)
  (hQ : ∀ a, RBad a -> Q .ret a w) :
  Code.wp Tryz.prog tailR Q (FD s neg us m false true nd ndm dp tr pos x) w := by
 conv => arg 2; whnf
 have hlow2 := low2 hcc
 have hlo8 := lo_lt c
 generalize lo c = L at hlow2 hlo8 hE
 have bE : ((L : Int) == 101) = true := by rw [beq_iff_eq]; omega
 have b43 : ((s[pos + 1].toNat : Int) == 43) = false := by rw [hcc1, h1]; decide
 have b45 : ((s[pos + 1].toNat : Int) == 45) = true := by rw [hcc1]; exact int_eq' (n := 45) (by decide) h1
 have hdn : (s[pos + 1 + 1].toNat : Int) = d.toNat := by rw [hdd]
 have g2 : ¬ (s[pos + 1 + 1].toNat : Int) < 48 := by omega
 have g3 : 57 < (s[pos + 1 + 1].toNat : Int) := by omega
 clear hE hcc hcc1 h1 hdd hdn
 have HQ := Lib.hid hQ
 clear hQ
 unfold FD
 go_wp2_with (go_at_call 114; refine (hlow2 _).mono ?_; rintro e w' ⟨rfl, rfl⟩)
 all_goals exact HQ.out _ ⟨_, _, _, _, _, _, rfl, rfl, rfl, rfl, rfl, rfl, rfl⟩
theorem td_int_minus_go (c c1 : UInt8) (hp : pos < s.size) (hcc : s[pos] = c) (hE : lo c = 101) (hp1 : pos + 1 < s.size) (hcc1 : s[pos + 1] = c1) (h1 : c1 = 45) (hp2 : pos + 1 + 1 < s.size) (d : UInt8) (hdd : s[pos + 1 + 1] = d) (hd1 : 48 <= d.toNat) (hd2 : d.toNat <= 57)
  (hQ : ∀ p e u, ELe us (ls s) (pos + 1 + 1) p e u -> u = true -> ∀ a, RBad a -> Q .ret a w) (hS : ∀ p e u, ELe us (ls s) (pos + 1 + 1) p e u -> ∀ a, RSl a m (if m = 0 then 0 else (nd : Int) + ((e : Nat) : Int) * -1 - (ndm : Int)) neg tr false (p : Nat) true -> Q .ret a w) :
  Code.wp Tryz.prog tailR Q (FD s neg us m false true nd ndm dp tr pos x) w := by
 conv => arg 2; whnf
 have hlow2 := low2 hcc
 have hlo8 := lo_lt c
 generalize lo c = L at hlow2 hlo8 hE
 have bE : ((L : Int) == 101) = true := by rw [beq_iff_eq]; omega
 have b43 : ((s[pos + 1].toNat : Int) == 43) = false := by rw [hcc1, h1]; decide
 have b45 : ((s[pos + 1].toNat : Int) == 45) = true := by rw [hcc1]; exact int_eq' (n := 45) (by decide) h1
 have hdn : (s[pos + 1 + 1].toNat : Int) = d.toNat := by rw [hdd]
 have g2 : ¬ (s[pos + 1 + 1].toNat : Int) < 48 := by omega
 have g3 : ¬ 57 < (s[pos + 1 + 1].toNat : Int) := by omega
 clear hE hcc hcc1 h1 hdd hdn
 have hund := fun b w hb => underscore_any b w hb
 unfold FD
 go_wp2_with (go_at_call 114; refine (hlow2 _).mono ?_; rintro e w' ⟨rfl, rfl⟩)
 refine FE_loop s hs _ _ _ _ _ _ _ _ _ _ us (pos + 1 + 1) (by omega) _ _ _ rfl ?_
 intro p e u x' hE
 have hQ := hQ p e u hE
 have hS := hS p e u hE
 have hp3 := hE.pl
 have hp4 := hE.pp
 have he1 := hE.e
 rw [ls_length] at hp3
 clear hE
 unfold FE
 by_cases hm : m = 0
 ·have bm : ((m : Int) != 0) = false := by rw [bne_eq_false_iff_eq]; omega
  rw [if_pos hm] at hS
  have HS := Lib.hid hS
  have HQ := Lib.hid hQ
  clear hS hQ
  subst hm
  cases u
  ·go_wp2_with (go_at_call 114; refine (hlow2 _).mono ?_; rintro e w' ⟨rfl, rfl⟩)
   all_goals exact HS.out _ (rsl_eq ⟨rfl, rfl, rfl, rfl, rfl, rfl, rfl⟩ (by omega) (by omega))
  ·go_wp2_with (first | (go_at_call 114; refine (hlow2 _).mono ?_; rintro e w' ⟨rfl, rfl⟩) | (go_at_call 155; refine (hund _ _ (by rw [ByteArray.size_extract]; omega)).mono ?_; rintro e w' ⟨⟨b, rfl⟩, rfl⟩))
   all_goals first | (exact HS.out _ (rsl_eq ⟨rfl, rfl, rfl, rfl, rfl, rfl, rfl⟩ (by omega) (by omega))) | (exact HQ.out (by simp) _ ⟨_, _, _, _, _, _, rfl, rfl, rfl, rfl, rfl, rfl, rfl⟩)
 ·have bm : ((m : Int) != 0) = true := by rw [bne_iff_ne]; omega
  rw [if_neg hm] at hS
  have HS := Lib.hid hS
  have HQ := Lib.hid hQ
  clear hS hQ
  clear hm
  cases u
  ·go_wp2_with (go_at_call 114; refine (hlow2 _).mono ?_; rintro e w' ⟨rfl, rfl⟩)
   all_goals exact HS.out _ (rsl_eq ⟨rfl, rfl, rfl, rfl, rfl, rfl, rfl⟩ (by omega) (by omega))
  ·go_wp2_with (first | (go_at_call 114; refine (hlow2 _).mono ?_; rintro e w' ⟨rfl, rfl⟩) | (go_at_call 155; refine (hund _ _ (by rw [ByteArray.size_extract]; omega)).mono ?_; rintro e w' ⟨⟨b, rfl⟩, rfl⟩))
   all_goals first | (exact HS.out _ (rsl_eq ⟨rfl, rfl, rfl, rfl, rfl, rfl, rfl⟩ (by omega) (by omega))) | (exact HQ.out (by simp) _ ⟨_, _, _, _, _, _, rfl, rfl, rfl, rfl, rfl, rfl, rfl⟩)
theorem td_int_none_lo (c c1 : UInt8) (hp : pos < s.size) (hcc : s[pos] = c) (hE : lo c = 101) (hp1 : pos + 1 < s.size) (hcc1 : s[pos + 1] = c1) (h1 : c1 ≠ 43) (h1b : c1 ≠ 45) (d : UInt8) (hdd : s[pos + 1] = d) (hd : d.toNat < 48)
  (hQ : ∀ a, RBad a -> Q .ret a w) :
  Code.wp Tryz.prog tailR Q (FD s neg us m false true nd ndm dp tr pos x) w := by
 conv => arg 2; whnf
 have hlow2 := low2 hcc
 have hlo8 := lo_lt c
 generalize lo c = L at hlow2 hlo8 hE
 have bE : ((L : Int) == 101) = true := by rw [beq_iff_eq]; omega
 have b43 : ((s[pos + 1].toNat : Int) == 43) = false := by rw [hcc1]; exact int_ne' (n := 43) (by decide) h1
 have b45 : ((s[pos + 1].toNat : Int) == 45) = false := by rw [hcc1]; exact int_ne' (n := 45) (by decide) h1b
 have hdn : (s[pos + 1].toNat : Int) = d.toNat := by rw [hdd]
 have g2 : (s[pos + 1].toNat : Int) < 48 := by omega
 clear hE hcc hcc1 h1 h1b hdd hdn
 have HQ := Lib.hid hQ
 clear hQ
 unfold FD
 go_wp2_with (go_at_call 114; refine (hlow2 _).mono ?_; rintro e w' ⟨rfl, rfl⟩)
 all_goals exact HQ.out _ ⟨_, _, _, _, _, _, rfl, rfl, rfl, rfl, rfl, rfl, rfl⟩
theorem td_int_none_hi (c c1 : UInt8) (hp : pos < s.size) (hcc : s[pos] = c) (hE : lo c = 101) (hp1 : pos + 1 < s.size) (hcc1 : s[pos + 1] = c1) (h1 : c1 ≠ 43) (h1b : c1 ≠ 45) (d : UInt8) (hdd : s[pos + 1] = d) (hd : 57 < d.toNat)
  (hQ : ∀ a, RBad a -> Q .ret a w) :
  Code.wp Tryz.prog tailR Q (FD s neg us m false true nd ndm dp tr pos x) w := by
 conv => arg 2; whnf
 have hlow2 := low2 hcc
 have hlo8 := lo_lt c
 generalize lo c = L at hlow2 hlo8 hE
 have bE : ((L : Int) == 101) = true := by rw [beq_iff_eq]; omega
 have b43 : ((s[pos + 1].toNat : Int) == 43) = false := by rw [hcc1]; exact int_ne' (n := 43) (by decide) h1
 have b45 : ((s[pos + 1].toNat : Int) == 45) = false := by rw [hcc1]; exact int_ne' (n := 45) (by decide) h1b
 have hdn : (s[pos + 1].toNat : Int) = d.toNat := by rw [hdd]
 have g2 : ¬ (s[pos + 1].toNat : Int) < 48 := by omega
 have g3 : 57 < (s[pos + 1].toNat : Int) := by omega
 clear hE hcc hcc1 h1 h1b hdd hdn
 have HQ := Lib.hid hQ
 clear hQ
 unfold FD
 go_wp2_with (go_at_call 114; refine (hlow2 _).mono ?_; rintro e w' ⟨rfl, rfl⟩)
 all_goals exact HQ.out _ ⟨_, _, _, _, _, _, rfl, rfl, rfl, rfl, rfl, rfl, rfl⟩
theorem td_int_none_go (c c1 : UInt8) (hp : pos < s.size) (hcc : s[pos] = c) (hE : lo c = 101) (hp1 : pos + 1 < s.size) (hcc1 : s[pos + 1] = c1) (h1 : c1 ≠ 43) (h1b : c1 ≠ 45) (d : UInt8) (hdd : s[pos + 1] = d) (hd1 : 48 <= d.toNat) (hd2 : d.toNat <= 57)
  (hQ : ∀ p e u, ELe us (ls s) (pos + 1) p e u -> u = true -> ∀ a, RBad a -> Q .ret a w) (hS : ∀ p e u, ELe us (ls s) (pos + 1) p e u -> ∀ a, RSl a m (if m = 0 then 0 else (nd : Int) + ((e : Nat) : Int) * 1 - (ndm : Int)) neg tr false (p : Nat) true -> Q .ret a w) :
  Code.wp Tryz.prog tailR Q (FD s neg us m false true nd ndm dp tr pos x) w := by
 conv => arg 2; whnf
 have hlow2 := low2 hcc
 have hlo8 := lo_lt c
 generalize lo c = L at hlow2 hlo8 hE
 have bE : ((L : Int) == 101) = true := by rw [beq_iff_eq]; omega
 have b43 : ((s[pos + 1].toNat : Int) == 43) = false := by rw [hcc1]; exact int_ne' (n := 43) (by decide) h1
 have b45 : ((s[pos + 1].toNat : Int) == 45) = false := by rw [hcc1]; exact int_ne' (n := 45) (by decide) h1b
 have hdn : (s[pos + 1].toNat : Int) = d.toNat := by rw [hdd]
 have g2 : ¬ (s[pos + 1].toNat : Int) < 48 := by omega
 have g3 : ¬ 57 < (s[pos + 1].toNat : Int) := by omega
 clear hE hcc hcc1 h1 h1b hdd hdn
 have hund := fun b w hb => underscore_any b w hb
 unfold FD
 go_wp2_with (go_at_call 114; refine (hlow2 _).mono ?_; rintro e w' ⟨rfl, rfl⟩)
 refine FE_loop s hs _ _ _ _ _ _ _ _ _ _ us (pos + 1) (by omega) _ _ _ rfl ?_
 intro p e u x' hE
 have hQ := hQ p e u hE
 have hS := hS p e u hE
 have hp3 := hE.pl
 have hp4 := hE.pp
 have he1 := hE.e
 rw [ls_length] at hp3
 clear hE
 unfold FE
 by_cases hm : m = 0
 ·have bm : ((m : Int) != 0) = false := by rw [bne_eq_false_iff_eq]; omega
  rw [if_pos hm] at hS
  have HS := Lib.hid hS
  have HQ := Lib.hid hQ
  clear hS hQ
  subst hm
  cases u
  ·go_wp2_with (go_at_call 114; refine (hlow2 _).mono ?_; rintro e w' ⟨rfl, rfl⟩)
   all_goals exact HS.out _ (rsl_eq ⟨rfl, rfl, rfl, rfl, rfl, rfl, rfl⟩ (by omega) (by omega))
  ·go_wp2_with (first | (go_at_call 114; refine (hlow2 _).mono ?_; rintro e w' ⟨rfl, rfl⟩) | (go_at_call 155; refine (hund _ _ (by rw [ByteArray.size_extract]; omega)).mono ?_; rintro e w' ⟨⟨b, rfl⟩, rfl⟩))
   all_goals first | (exact HS.out _ (rsl_eq ⟨rfl, rfl, rfl, rfl, rfl, rfl, rfl⟩ (by omega) (by omega))) | (exact HQ.out (by simp) _ ⟨_, _, _, _, _, _, rfl, rfl, rfl, rfl, rfl, rfl, rfl⟩)
 ·have bm : ((m : Int) != 0) = true := by rw [bne_iff_ne]; omega
  rw [if_neg hm] at hS
  have HS := Lib.hid hS
  have HQ := Lib.hid hQ
  clear hS hQ
  clear hm
  cases u
  ·go_wp2_with (go_at_call 114; refine (hlow2 _).mono ?_; rintro e w' ⟨rfl, rfl⟩)
   all_goals exact HS.out _ (rsl_eq ⟨rfl, rfl, rfl, rfl, rfl, rfl, rfl⟩ (by omega) (by omega))
  ·go_wp2_with (first | (go_at_call 114; refine (hlow2 _).mono ?_; rintro e w' ⟨rfl, rfl⟩) | (go_at_call 155; refine (hund _ _ (by rw [ByteArray.size_extract]; omega)).mono ?_; rintro e w' ⟨⟨b, rfl⟩, rfl⟩))
   all_goals first | (exact HS.out _ (rsl_eq ⟨rfl, rfl, rfl, rfl, rfl, rfl, rfl⟩ (by omega) (by omega))) | (exact HQ.out (by simp) _ ⟨_, _, _, _, _, _, rfl, rfl, rfl, rfl, rfl, rfl, rfl⟩)
theorem td_dot_nodig
  (hQ : ∀ a, RBad a -> Q .ret a w) :
  Code.wp Tryz.prog tailR Q (FD s neg us m true false nd ndm dp tr pos x) w := by
 conv => arg 2; whnf
 have HQ := Lib.hid hQ
 clear hQ
 unfold FD
 go_wp2_with (go_at_call 114; refine (hlow2 _).mono ?_; rintro e w' ⟨rfl, rfl⟩)
 all_goals exact HQ.out _ ⟨_, _, _, _, _, _, rfl, rfl, rfl, rfl, rfl, rfl, rfl⟩
theorem td_dot_end (hp : ¬ pos < s.size)
  (hQ : us = true -> ∀ a, RBad a -> Q .ret a w) (hS : ∀ a, RSl a m (if m = 0 then 0 else dp - (ndm : Int)) neg tr false pos true -> Q .ret a w) :
  Code.wp Tryz.prog tailR Q (FD s neg us m true true nd ndm dp tr pos x) w := by
 conv => arg 2; whnf
 have hund := fun b w hb => underscore_any b w hb
 unfold FD
 by_cases hm : m = 0
 ·have bm : ((m : Int) != 0) = false := by rw [bne_eq_false_iff_eq]; omega
  rw [if_pos hm] at hS
  have HS := Lib.hid hS
  have HQ := Lib.hid hQ
  clear hS hQ
  subst hm
  cases us
  ·go_wp2_with (go_at_call 114; refine (hlow2 _).mono ?_; rintro e w' ⟨rfl, rfl⟩)
   all_goals exact HS.out _ (rsl_eq ⟨rfl, rfl, rfl, rfl, rfl, rfl, rfl⟩ (by omega) (by omega))
  ·go_wp2_with (first | (go_at_call 114; refine (hlow2 _).mono ?_; rintro e w' ⟨rfl, rfl⟩) | (go_at_call 155; refine (hund _ _ (by rw [ByteArray.size_extract]; omega)).mono ?_; rintro e w' ⟨⟨b, rfl⟩, rfl⟩))
   all_goals first | (exact HS.out _ (rsl_eq ⟨rfl, rfl, rfl, rfl, rfl, rfl, rfl⟩ (by omega) (by omega))) | (exact HQ.out (by simp) _ ⟨_, _, _, _, _, _, rfl, rfl, rfl, rfl, rfl, rfl, rfl⟩)
 ·have bm : ((m : Int) != 0) = true := by rw [bne_iff_ne]; omega
  rw [if_neg hm] at hS
  have HS := Lib.hid hS
  have HQ := Lib.hid hQ
  clear hS hQ
  clear hm
  cases us
  ·go_wp2_with (go_at_call 114; refine (hlow2 _).mono ?_; rintro e w' ⟨rfl, rfl⟩)
   all_goals exact HS.out _ (rsl_eq ⟨rfl, rfl, rfl, rfl, rfl, rfl, rfl⟩ (by omega) (by omega))
  ·go_wp2_with (first | (go_at_call 114; refine (hlow2 _).mono ?_; rintro e w' ⟨rfl, rfl⟩) | (go_at_call 155; refine (hund _ _ (by rw [ByteArray.size_extract]; omega)).mono ?_; rintro e w' ⟨⟨b, rfl⟩, rfl⟩))
   all_goals first | (exact HS.out _ (rsl_eq ⟨rfl, rfl, rfl, rfl, rfl, rfl, rfl⟩ (by omega) (by omega))) | (exact HQ.out (by simp) _ ⟨_, _, _, _, _, _, rfl, rfl, rfl, rfl, rfl, rfl, rfl⟩)
theorem td_dot_other (c : UInt8) (hp : pos < s.size) (hcc : s[pos] = c) (hE : lo c ≠ 101)
  (hQ : us = true -> ∀ a, RBad a -> Q .ret a w) (hS : ∀ a, RSl a m (if m = 0 then 0 else dp - (ndm : Int)) neg tr false pos true -> Q .ret a w) :
  Code.wp Tryz.prog tailR Q (FD s neg us m true true nd ndm dp tr pos x) w := by
 conv => arg 2; whnf
 have hlow2 := low2 hcc
 have hlo8 := lo_lt c
 generalize lo c = L at hlow2 hlo8 hE
 have bE : ((L : Int) == 101) = false := by rw [beq_eq_false_iff_ne]; omega
 clear hE hcc
 have hund := fun b w hb => underscore_any b w hb
 unfold FD
 by_cases hm : m = 0
 ·have bm : ((m : Int) != 0) = false := by rw [bne_eq_false_iff_eq]; omega
  rw [if_pos hm] at hS
  have HS := Lib.hid hS
  have HQ := Lib.hid hQ
  clear hS hQ
  subst hm
  cases us
  ·go_wp2_with (go_at_call 114; refine (hlow2 _).mono ?_; rintro e w' ⟨rfl, rfl⟩)
   all_goals exact HS.out _ (rsl_eq ⟨rfl, rfl, rfl, rfl, rfl, rfl, rfl⟩ (by omega) (by omega))
  ·go_wp2_with (first | (go_at_call 114; refine (hlow2 _).mono ?_; rintro e w' ⟨rfl, rfl⟩) | (go_at_call 155; refine (hund _ _ (by rw [ByteArray.size_extract]; omega)).mono ?_; rintro e w' ⟨⟨b, rfl⟩, rfl⟩))
   all_goals first | (exact HS.out _ (rsl_eq ⟨rfl, rfl, rfl, rfl, rfl, rfl, rfl⟩ (by omega) (by omega))) | (exact HQ.out (by simp) _ ⟨_, _, _, _, _, _, rfl, rfl, rfl, rfl, rfl, rfl, rfl⟩)
 ·have bm : ((m : Int) != 0) = true := by rw [bne_iff_ne]; omega
  rw [if_neg hm] at hS
  have HS := Lib.hid hS
  have HQ := Lib.hid hQ
  clear hS hQ
  clear hm
  cases us
  ·go_wp2_with (go_at_call 114; refine (hlow2 _).mono ?_; rintro e w' ⟨rfl, rfl⟩)
   all_goals exact HS.out _ (rsl_eq ⟨rfl, rfl, rfl, rfl, rfl, rfl, rfl⟩ (by omega) (by omega))
  ·go_wp2_with (first | (go_at_call 114; refine (hlow2 _).mono ?_; rintro e w' ⟨rfl, rfl⟩) | (go_at_call 155; refine (hund _ _ (by rw [ByteArray.size_extract]; omega)).mono ?_; rintro e w' ⟨⟨b, rfl⟩, rfl⟩))
   all_goals first | (exact HS.out _ (rsl_eq ⟨rfl, rfl, rfl, rfl, rfl, rfl, rfl⟩ (by omega) (by omega))) | (exact HQ.out (by simp) _ ⟨_, _, _, _, _, _, rfl, rfl, rfl, rfl, rfl, rfl, rfl⟩)
theorem td_dot_bad1 (c : UInt8) (hp : pos < s.size) (hcc : s[pos] = c) (hE : lo c = 101) (hp1 : ¬ pos + 1 < s.size)
  (hQ : ∀ a, RBad a -> Q .ret a w) :
  Code.wp Tryz.prog tailR Q (FD s neg us m true true nd ndm dp tr pos x) w := by
 conv => arg 2; whnf
 have hlow2 := low2 hcc
 have hlo8 := lo_lt c
 generalize lo c = L at hlow2 hlo8 hE
 have bE : ((L : Int) == 101) = true := by rw [beq_iff_eq]; omega
 clear hE hcc
 have HQ := Lib.hid hQ
 clear hQ
 unfold FD
 go_wp2_with (go_at_call 114; refine (hlow2 _).mono ?_; rintro e w' ⟨rfl, rfl⟩)
 all_goals exact HQ.out _ ⟨_, _, _, _, _, _, rfl, rfl, rfl, rfl, rfl, rfl, rfl⟩
theorem td_dot_plus_end (c c1 : UInt8) (hp : pos < s.size) (hcc : s[pos] = c) (hE : lo c = 101) (hp1 : pos + 1 < s.size) (hcc1 : s[pos + 1] = c1) (h1 : c1 = 43) (hp2 : ¬ pos + 1 + 1 < s.size)
  (hQ : ∀ a, RBad a -> Q .ret a w) :
  Code.wp Tryz.prog tailR Q (FD s neg us m true true nd ndm dp tr pos x) w := by
 conv => arg 2; whnf
 have hlow2 := low2 hcc
 have hlo8 := lo_lt c
 generalize lo c = L at hlow2 hlo8 hE
 have bE : ((L : Int) == 101) = true := by rw [beq_iff_eq]; omega
 have b43 : ((s[pos + 1].toNat : Int) == 43) = true := by rw [hcc1]; exact int_eq' (n := 43) (by decide) h1
 clear hE hcc hcc1 h1
 have HQ := Lib.hid hQ
 clear hQ
 unfold FD
 go_wp2_with (go_at_call 114; refine (hlow2 _).mono ?_; rintro e w' ⟨rfl, rfl⟩)
 all_goals exact HQ.out _ ⟨_, _, _, _, _, _, rfl, rfl, rfl, rfl, rfl, rfl, rfl⟩
theorem td_dot_minus_end (c c1 : UInt8) (hp : pos < s.size) (hcc : s[pos] = c) (hE : lo c = 101) (hp1 : pos + 1 < s.size) (hcc1 : s[pos + 1] = c1) (h1 : c1 = 45) (hp2 : ¬ pos + 1 + 1 < s.size)
  (hQ : ∀ a, RBad a -> Q .ret a w) :
  Code.wp Tryz.prog tailR Q (FD s neg us m true true nd ndm dp tr pos x) w := by
 conv => arg 2; whnf
 have hlow2 := low2 hcc
 have hlo8 := lo_lt c
 generalize lo c = L at hlow2 hlo8 hE
 have bE : ((L : Int) == 101) = true := by rw [beq_iff_eq]; omega
 have b43 : ((s[pos + 1].toNat : Int) == 43) = false := by rw [hcc1, h1]; decide
 have b45 : ((s[pos + 1].toNat : Int) == 45) = true := by rw [hcc1]; exact int_eq' (n := 45) (by decide) h1
 clear hE hcc hcc1 h1
 have HQ := Lib.hid hQ
 clear hQ
 unfold FD
 go_wp2_with (go_at_call 114; refine (hlow2 _).mono ?_; rintro e w' ⟨rfl, rfl⟩)
 all_goals exact HQ.out _ ⟨_, _, _, _, _, _, rfl, rfl, rfl, rfl, rfl, rfl, rfl⟩
theorem td_dot_plus_lo (c c1 : UInt8) (hp : pos < s.size) (hcc : s[pos] = c) (hE : lo c = 101) (hp1 : pos + 1 < s.size) (hcc1 : s[pos + 1] = c1) (h1 : c1 = 43) (hp2 : pos + 1 + 1 < s.size) (d : UInt8) (hdd : s[pos + 1 + 1] = d) (hd : d.toNat < 48)
  (hQ : ∀ a, RBad a -> Q .ret a w) :
  Code.wp Tryz.prog tailR Q (FD s neg us m true true nd ndm dp tr pos x) w := by
 conv => arg 2; whnf
 have hlow2 := low2 hcc
 have hlo8 := lo_lt c
 generalize lo c = L at hlow2 hlo8 hE
 have bE : ((L : Int) == 101) = true := by rw [beq_iff_eq]; omega
 have b43 : ((s[pos + 1].toNat : Int) == 43) = true := by rw [hcc1]; exact int_eq' (n := 43) (by decide) h1
 have hdn : (s[pos + 1 + 1].toNat : Int) = d.toNat := by rw [hdd]
 have g2 : (s[pos + 1 + 1].toNat : Int) < 48 := by omega
 clear hE hcc hcc1 h1 hdd hdn
 have HQ := Lib.hid hQ
 clear hQ
 unfold FD
 go_wp2_with (go_at_call 114; refine (hlow2 _).mono ?_; rintro e w' ⟨rfl, rfl⟩)
 all_goals exact HQ.out _ ⟨_, _, _, _, _, _, rfl, rfl, rfl, rfl, rfl, rfl, rfl⟩
theorem td_dot_plus_hi (c c1 : UInt8) (hp : pos < s.size) (hcc : s[pos] = c) (hE : lo c = 101) (hp1 : pos + 1 < s.size) (hcc1 : s[pos + 1] = c1) (h1 : c1 = 43) (hp2 : pos + 1 + 1 < s.size) (d : UInt8) (hdd : s[pos + 1 + 1] = d) (hd : 57 < d.toNat)
  (hQ : ∀ a, RBad a -> Q .ret a w) :
  Code.wp Tryz.prog tailR Q (FD s neg us m true true nd ndm dp tr pos x) w := by
 conv => arg 2; whnf
 have hlow2 := low2 hcc
 have hlo8 := lo_lt c
 generalize lo c = L at hlow2 hlo8 hE
 have bE : ((L : Int) == 101) = true := by rw [beq_iff_eq]; omega
 have b43 : ((s[pos + 1].toNat : Int) == 43) = true := by rw [hcc1]; exact int_eq' (n := 43) (by decide) h1
 have hdn : (s[pos + 1 + 1].toNat : Int) = d.toNat := by rw [hdd]
 have g2 : ¬ (s[pos + 1 + 1].toNat : Int) < 48 := by omega
 have g3 : 57 < (s[pos + 1 + 1].toNat : Int) := by omega
 clear hE hcc hcc1 h1 hdd hdn
 have HQ := Lib.hid hQ
 clear hQ
 unfold FD
 go_wp2_with (go_at_call 114; refine (hlow2 _).mono ?_; rintro e w' ⟨rfl, rfl⟩)
 all_goals exact HQ.out _ ⟨_, _, _, _, _, _, rfl, rfl, rfl, rfl, rfl, rfl, rfl⟩
theorem td_dot_plus_go (c c1 : UInt8) (hp : pos < s.size) (hcc : s[pos] = c) (hE : lo c = 101) (hp1 : pos + 1 < s.size) (hcc1 : s[pos + 1] = c1) (h1 : c1 = 43) (hp2 : pos + 1 + 1 < s.size) (d : UInt8) (hdd : s[pos + 1 + 1] = d) (hd1 : 48 <= d.toNat) (hd2 : d.toNat <= 57)
  (hQ : ∀ p e u, ELe us (ls s) (pos + 1 + 1) p e u -> u = true -> ∀ a, RBad a -> Q .ret a w) (hS : ∀ p e u, ELe us (ls s) (pos + 1 + 1) p e u -> ∀ a, RSl a m (if m = 0 then 0 else dp + ((e : Nat) : Int) * 1 - (ndm : Int)) neg tr false (p : Nat) true -> Q .ret a w) :
  Code.wp Tryz.prog tailR Q (FD s neg us m true true nd ndm dp tr pos x) w := by
 conv => arg 2; whnf
 have hlow2 := low2 hcc
 have hlo8 := lo_lt c
 generalize lo c = L at hlow2 hlo8 hE
 have bE : ((L : Int) == 101) = true := by rw [beq_iff_eq]; omega
 have b43 : ((s[pos + 1].toNat : Int) == 43) = true := by rw [hcc1]; exact int_eq' (n := 43) (by decide) h1
 have hdn : (s[pos + 1 + 1].toNat : Int) = d.toNat := by rw [hdd]
 have g2 : ¬ (s[pos + 1 + 1].toNat : Int) < 48 := by omega
 have g3 : ¬ 57 < (s[pos + 1 + 1].toNat : Int) := by omega
 clear hE hcc hcc1 h1 hdd hdn
 have hund := fun b w hb => underscore_any b w hb
 unfold FD
 go_wp2_with (go_at_call 114; refine (hlow2 _).mono ?_; rintro e w' ⟨rfl, rfl⟩)
 refine FE_loop s hs _ _ _ _ _ _ _ _ _ _ us (pos + 1 + 1) (by omega) _ _ _ rfl ?_
 intro p e u x' hE
 have hQ := hQ p e u hE
 have hS := hS p e u hE
 have hp3 := hE.pl
 have hp4 := hE.pp
 have he1 := hE.e
 rw [ls_length] at hp3
 clear hE
 unfold FE
 by_cases hm : m = 0
 ·have bm : ((m : Int) != 0) = false := by rw [bne_eq_false_iff_eq]; omega
  rw [if_pos hm] at hS
  have HS := Lib.hid hS
  have HQ := Lib.hid hQ
  clear hS hQ
  subst hm
  cases u
  ·go_wp2_with (go_at_call 114; refine (hlow2 _).mono ?_; rintro e w' ⟨rfl, rfl⟩)
   all_goals exact HS.out _ (rsl_eq ⟨rfl, rfl, rfl, rfl, rfl, rfl, rfl⟩ (by omega) (by omega))
  ·go_wp2_with (first | (go_at_call 114; refine (hlow2 _).mono ?_; rintro e w' ⟨rfl, rfl⟩) | (go_at_call 155; refine (hund _ _ (by rw [ByteArray.size_extract]; omega)).mono ?_; rintro e w' ⟨⟨b, rfl⟩, rfl⟩))
   all_goals first | (exact HS.out _ (rsl_eq ⟨rfl, rfl, rfl, rfl, rfl, rfl, rfl⟩ (by omega) (by omega))) | (exact HQ.out (by simp) _ ⟨_, _, _, _, _, _, rfl, rfl, rfl, rfl, rfl, rfl, rfl⟩)
 ·have bm : ((m : Int) != 0) = true := by rw [bne_iff_ne]; omega
  rw [if_neg hm] at hS
  have HS := Lib.hid hS
  have HQ := Lib.hid hQ
  clear hS hQ
  clear hm
  cases u
  ·go_wp2_with (go_at_call 114; refine (hlow2 _).mono ?_; rintro e w' ⟨rfl, rfl⟩)
   all_goals exact HS.out _ (rsl_eq ⟨rfl, rfl, rfl, rfl, rfl, rfl, rfl⟩ (by omega) (by omega))
  ·go_wp2_with (first | (go_at_call 114; refine (hlow2 _).mono ?_; rintro e w' ⟨rfl, rfl⟩) | (go_at_call 155; refine (hund _ _ (by rw [ByteArray.size_extract]; omega)).mono ?_; rintro e w' ⟨⟨b, rfl⟩, rfl⟩))
   all_goals first | (exact HS.out _ (rsl_eq ⟨rfl, rfl, rfl, rfl, rfl, rfl, rfl⟩ (by omega) (by omega))) | (exact HQ.out (by simp) _ ⟨_, _, _, _, _, _, rfl, rfl, rfl, rfl, rfl, rfl, rfl⟩)
theorem td_dot_minus_lo (c c1 : UInt8) (hp : pos < s.size) (hcc : s[pos] = c) (hE : lo c = 101) (hp1 : pos + 1 < s.size) (hcc1 : s[pos + 1] = c1) (h1 : c1 = 45) (hp2 : pos + 1 + 1 < s.size) (d : UInt8) (hdd : s[pos + 1 + 1] = d) (hd : d.toNat < 48)
  (hQ : ∀ a, RBad a -> Q .ret a w) :
  Code.wp Tryz.prog tailR Q (FD s neg us m true true nd ndm dp tr pos x) w := by
 conv => arg 2; whnf
 have hlow2 := low2 hcc
 have hlo8 := lo_lt c
 generalize lo c = L at hlow2 hlo8 hE
 have bE : ((L : Int) == 101) = true := by rw [beq_iff_eq]; omega
 have b43 : ((s[pos + 1].toNat : Int) == 43) = false := by rw [hcc1, h1]; decide
 have b45 : ((s[pos + 1].toNat : Int) == 45) = true := by rw [hcc1]; exact int_eq' (n := 45) (by decide) h1
 have hdn : (s[pos + 1 + 1].toNat : Int) = d.toNat := by rw [hdd]
 have g2 : (s[pos + 1 + 1].toNat : Int) < 48 := by omega
 clear hE hcc hcc1 h1 hdd hdn
 have HQ := Lib.hid hQ
 clear hQ
 unfold FD
 go_wp2_with (go_at_call 114; refine (hlow2 _).mono ?_; rintro e w' ⟨rfl, rfl⟩)
 all_goals exact HQ.out _ ⟨_, _, _, _, _, _, rfl, rfl, rfl, rfl, rfl, rfl, rfl⟩
theorem td_dot_minus_hi (c c1 : UInt8) (hp : pos < s.size) (hcc : s[pos] = c) (hE : lo c = 101) (hp1 : pos + 1 < s.size) (hcc1 : s[pos + 1] = c1) (h1 : c1 = 45) (hp2 : pos + 1 + 1 < s.size) (d : UInt8) (hdd : s[pos + 1 + 1] = d) (hd : 57 < d.toNat)
  (hQ : ∀ a, RBad a -> Q .ret a w) :
  Code.wp Tryz.prog tailR Q (FD s neg us m true true nd ndm dp tr pos x) w := by
 conv => arg 2; whnf
 have hlow2 := low2 hcc
 have hlo8 := lo_lt c
 generalize lo c = L at hlow2 hlo8 hE
 have bE : ((L : Int) == 101) = true := by rw [beq_iff_eq]; omega
 have b43 : ((s[pos + 1].toNat : Int) == 43) = false := by rw [hcc1, h1]; decide
 have b45 : ((s[pos + 1].toNat : Int) == 45) = true := by rw [hcc1]; exact int_eq' (n := 45) (by decide) h1
 have hdn : (s[pos + 1 + 1].toNat : Int) = d.toNat := by rw [hdd]
 have g2 : ¬ (s[pos + 1 + 1].toNat : Int) < 48 := by omega
 have g3 : 57 < (s[pos + 1 + 1].toNat : Int) := by omega
 clear hE hcc hcc1 h1 hdd hdn
 have HQ := Lib.hid hQ
 clear hQ
 unfold FD
 go_wp2_with (go_at_call 114; refine (hlow2 _).mono ?_; rintro e w' ⟨rfl, rfl⟩)
 all_goals exact HQ.out _ ⟨_, _, _, _, _, _, rfl, rfl, rfl, rfl, rfl, rfl, rfl⟩
theorem td_dot_minus_go (c c1 : UInt8) (hp : pos < s.size) (hcc : s[pos] = c) (hE : lo c = 101) (hp1 : pos + 1 < s.size) (hcc1 : s[pos + 1] = c1) (h1 : c1 = 45) (hp2 : pos + 1 + 1 < s.size) (d : UInt8) (hdd : s[pos + 1 + 1] = d) (hd1 : 48 <= d.toNat) (hd2 : d.toNat <= 57)
  (hQ : ∀ p e u, ELe us (ls s) (pos + 1 + 1) p e u -> u = true -> ∀ a, RBad a -> Q .ret a w) (hS : ∀ p e u, ELe us (ls s) (pos + 1 + 1) p e u -> ∀ a, RSl a m (if m = 0 then 0 else dp + ((e : Nat) : Int) * -1 - (ndm : Int)) neg tr false (p : Nat) true -> Q .ret a w) :
  Code.wp Tryz.prog tailR Q (FD s neg us m true true nd ndm dp tr pos x) w := by
 conv => arg 2; whnf
 have hlow2 := low2 hcc
 have hlo8 := lo_lt c
 generalize lo c = L at hlow2 hlo8 hE
 have bE : ((L : Int) == 101) = true := by rw [beq_iff_eq]; omega
 have b43 : ((s[pos + 1].toNat : Int) == 43) = false := by rw [hcc1, h1]; decide
 have b45 : ((s[pos + 1].toNat : Int) == 45) = true := by rw [hcc1]; exact int_eq' (n := 45) (by decide) h1
 have hdn : (s[pos + 1 + 1].toNat : Int) = d.toNat := by rw [hdd]
 have g2 : ¬ (s[pos + 1 + 1].toNat : Int) < 48 := by omega
 have g3 : ¬ 57 < (s[pos + 1 + 1].toNat : Int) := by omega
 clear hE hcc hcc1 h1 hdd hdn
 have hund := fun b w hb => underscore_any b w hb
 unfold FD
 go_wp2_with (go_at_call 114; refine (hlow2 _).mono ?_; rintro e w' ⟨rfl, rfl⟩)
 refine FE_loop s hs _ _ _ _ _ _ _ _ _ _ us (pos + 1 + 1) (by omega) _ _ _ rfl ?_
 intro p e u x' hE
 have hQ := hQ p e u hE
 have hS := hS p e u hE
 have hp3 := hE.pl
 have hp4 := hE.pp
 have he1 := hE.e
 rw [ls_length] at hp3
 clear hE
 unfold FE
 by_cases hm : m = 0
 ·have bm : ((m : Int) != 0) = false := by rw [bne_eq_false_iff_eq]; omega
  rw [if_pos hm] at hS
  have HS := Lib.hid hS
  have HQ := Lib.hid hQ
  clear hS hQ
  subst hm
  cases u
  ·go_wp2_with (go_at_call 114; refine (hlow2 _).mono ?_; rintro e w' ⟨rfl, rfl⟩)
   all_goals exact HS.out _ (rsl_eq ⟨rfl, rfl, rfl, rfl, rfl, rfl, rfl⟩ (by omega) (by omega))
  ·go_wp2_with (first | (go_at_call 114; refine (hlow2 _).mono ?_; rintro e w' ⟨rfl, rfl⟩) | (go_at_call 155; refine (hund _ _ (by rw [ByteArray.size_extract]; omega)).mono ?_; rintro e w' ⟨⟨b, rfl⟩, rfl⟩))
   all_goals first | (exact HS.out _ (rsl_eq ⟨rfl, rfl, rfl, rfl, rfl, rfl, rfl⟩ (by omega) (by omega))) | (exact HQ.out (by simp) _ ⟨_, _, _, _, _, _, rfl, rfl, rfl, rfl, rfl, rfl, rfl⟩)
 ·have bm : ((m : Int) != 0) = true := by rw [bne_iff_ne]; omega
  rw [if_neg hm] at hS
  have HS := Lib.hid hS
  have HQ := Lib.hid hQ
  clear hS hQ
  clear hm
  cases u
  ·go_wp2_with (go_at_call 114; refine (hlow2 _).mono ?_; rintro e w' ⟨rfl, rfl⟩)
   all_goals exact HS.out _ (rsl_eq ⟨rfl, rfl, rfl, rfl, rfl, rfl, rfl⟩ (by omega) (by omega))
  ·go_wp2_with (first | (go_at_call 114; refine (hlow2 _).mono ?_; rintro e w' ⟨rfl, rfl⟩) | (go_at_call 155; refine (hund _ _ (by rw [ByteArray.size_extract]; omega)).mono ?_; rintro e w' ⟨⟨b, rfl⟩, rfl⟩))
   all_goals first | (exact HS.out _ (rsl_eq ⟨rfl, rfl, rfl, rfl, rfl, rfl, rfl⟩ (by omega) (by omega))) | (exact HQ.out (by simp) _ ⟨_, _, _, _, _, _, rfl, rfl, rfl, rfl, rfl, rfl, rfl⟩)
theorem td_dot_none_lo (c c1 : UInt8) (hp : pos < s.size) (hcc : s[pos] = c) (hE : lo c = 101) (hp1 : pos + 1 < s.size) (hcc1 : s[pos + 1] = c1) (h1 : c1 ≠ 43) (h1b : c1 ≠ 45) (d : UInt8) (hdd : s[pos + 1] = d) (hd : d.toNat < 48)
  (hQ : ∀ a, RBad a -> Q .ret a w) :
  Code.wp Tryz.prog tailR Q (FD s neg us m true true nd ndm dp tr pos x) w := by
 conv => arg 2; whnf
 have hlow2 := low2 hcc
 have hlo8 := lo_lt c
 generalize lo c = L at hlow2 hlo8 hE
 have bE : ((L : Int) == 101) = true := by rw [beq_iff_eq]; omega
 have b43 : ((s[pos + 1].toNat : Int) == 43) = false := by rw [hcc1]; exact int_ne' (n := 43) (by decide) h1
 have b45 : ((s[pos + 1].toNat : Int) == 45) = false := by rw [hcc1]; exact int_ne' (n := 45) (by decide) h1b
 have hdn : (s[pos + 1].toNat : Int) = d.toNat := by rw [hdd]
 have g2 : (s[pos + 1].toNat : Int) < 48 := by omega
 clear hE hcc hcc1 h1 h1b hdd hdn
 have HQ := Lib.hid hQ
 clear hQ
 unfold FD
 go_wp2_with (go_at_call 114; refine (hlow2 _).mono ?_; rintro e w' ⟨rfl, rfl⟩)
 all_goals exact HQ.out _ ⟨_, _, _, _, _, _, rfl, rfl, rfl, rfl, rfl, rfl, rfl⟩
theorem td_dot_none_hi (c c1 : UInt8) (hp : pos < s.size) (hcc : s[pos] = c) (hE : lo c = 101) (hp1 : pos + 1 < s.size) (hcc1 : s[pos + 1] = c1) (h1 : c1 ≠ 43) (h1b : c1 ≠ 45) (d : UInt8) (hdd : s[pos + 1] = d) (hd : 57 < d.toNat)
  (hQ : ∀ a, RBad a -> Q .ret a w) :
  Code.wp Tryz.prog tailR Q (FD s neg us m true true nd ndm dp tr pos x) w := by
 conv => arg 2; whnf
 have hlow2 := low2 hcc
 have hlo8 := lo_lt c
 generalize lo c = L at hlow2 hlo8 hE
 have bE : ((L : Int) == 101) = true := by rw [beq_iff_eq]; omega
 have b43 : ((s[pos + 1].toNat : Int) == 43) = false := by rw [hcc1]; exact int_ne' (n := 43) (by decide) h1
 have b45 : ((s[pos + 1].toNat : Int) == 45) = false := by rw [hcc1]; exact int_ne' (n := 45) (by decide) h1b
 have hdn : (s[pos + 1].toNat : Int) = d.toNat := by rw [hdd]
 have g2 : ¬ (s[pos + 1].toNat : Int) < 48 := by omega
 have g3 : 57 < (s[pos + 1].toNat : Int) := by omega
 clear hE hcc hcc1 h1 h1b hdd hdn
 have HQ := Lib.hid hQ
 clear hQ
 unfold FD
 go_wp2_with (go_at_call 114; refine (hlow2 _).mono ?_; rintro e w' ⟨rfl, rfl⟩)
 all_goals exact HQ.out _ ⟨_, _, _, _, _, _, rfl, rfl, rfl, rfl, rfl, rfl, rfl⟩
theorem td_dot_none_go (c c1 : UInt8) (hp : pos < s.size) (hcc : s[pos] = c) (hE : lo c = 101) (hp1 : pos + 1 < s.size) (hcc1 : s[pos + 1] = c1) (h1 : c1 ≠ 43) (h1b : c1 ≠ 45) (d : UInt8) (hdd : s[pos + 1] = d) (hd1 : 48 <= d.toNat) (hd2 : d.toNat <= 57)
  (hQ : ∀ p e u, ELe us (ls s) (pos + 1) p e u -> u = true -> ∀ a, RBad a -> Q .ret a w) (hS : ∀ p e u, ELe us (ls s) (pos + 1) p e u -> ∀ a, RSl a m (if m = 0 then 0 else dp + ((e : Nat) : Int) * 1 - (ndm : Int)) neg tr false (p : Nat) true -> Q .ret a w) :
  Code.wp Tryz.prog tailR Q (FD s neg us m true true nd ndm dp tr pos x) w := by
 conv => arg 2; whnf
 have hlow2 := low2 hcc
 have hlo8 := lo_lt c
 generalize lo c = L at hlow2 hlo8 hE
 have bE : ((L : Int) == 101) = true := by rw [beq_iff_eq]; omega
 have b43 : ((s[pos + 1].toNat : Int) == 43) = false := by rw [hcc1]; exact int_ne' (n := 43) (by decide) h1
 have b45 : ((s[pos + 1].toNat : Int) == 45) = false := by rw [hcc1]; exact int_ne' (n := 45) (by decide) h1b
 have hdn : (s[pos + 1].toNat : Int) = d.toNat := by rw [hdd]
 have g2 : ¬ (s[pos + 1].toNat : Int) < 48 := by omega
 have g3 : ¬ 57 < (s[pos + 1].toNat : Int) := by omega
 clear hE hcc hcc1 h1 h1b hdd hdn
 have hund := fun b w hb => underscore_any b w hb
 unfold FD
 go_wp2_with (go_at_call 114; refine (hlow2 _).mono ?_; rintro e w' ⟨rfl, rfl⟩)
 refine FE_loop s hs _ _ _ _ _ _ _ _ _ _ us (pos + 1) (by omega) _ _ _ rfl ?_
 intro p e u x' hE
 have hQ := hQ p e u hE
 have hS := hS p e u hE
 have hp3 := hE.pl
 have hp4 := hE.pp
 have he1 := hE.e
 rw [ls_length] at hp3
 clear hE
 unfold FE
 by_cases hm : m = 0
 ·have bm : ((m : Int) != 0) = false := by rw [bne_eq_false_iff_eq]; omega
  rw [if_pos hm] at hS
  have HS := Lib.hid hS
  have HQ := Lib.hid hQ
  clear hS hQ
  subst hm
  cases u
  ·go_wp2_with (go_at_call 114; refine (hlow2 _).mono ?_; rintro e w' ⟨rfl, rfl⟩)
   all_goals exact HS.out _ (rsl_eq ⟨rfl, rfl, rfl, rfl, rfl, rfl, rfl⟩ (by omega) (by omega))
  ·go_wp2_with (first | (go_at_call 114; refine (hlow2 _).mono ?_; rintro e w' ⟨rfl, rfl⟩) | (go_at_call 155; refine (hund _ _ (by rw [ByteArray.size_extract]; omega)).mono ?_; rintro e w' ⟨⟨b, rfl⟩, rfl⟩))
   all_goals first | (exact HS.out _ (rsl_eq ⟨rfl, rfl, rfl, rfl, rfl, rfl, rfl⟩ (by omega) (by omega))) | (exact HQ.out (by simp) _ ⟨_, _, _, _, _, _, rfl, rfl, rfl, rfl, rfl, rfl, rfl⟩)
 ·have bm : ((m : Int) != 0) = true := by rw [bne_iff_ne]; omega
  rw [if_neg hm] at hS
  have HS := Lib.hid hS
  have HQ := Lib.hid hQ
  clear hS hQ
  clear hm
  cases u
  ·go_wp2_with (go_at_call 114; refine (hlow2 _).mono ?_; rintro e w' ⟨rfl, rfl⟩)
   all_goals exact HS.out _ (rsl_eq ⟨rfl, rfl, rfl, rfl, rfl, rfl, rfl⟩ (by omega) (by omega))
  ·go_wp2_with (first | (go_at_call 114; refine (hlow2 _).mono ?_; rintro e w' ⟨rfl, rfl⟩) | (go_at_call 155; refine (hund _ _ (by rw [ByteArray.size_extract]; omega)).mono ?_; rintro e w' ⟨⟨b, rfl⟩, rfl⟩))
   all_goals first | (exact HS.out _ (rsl_eq ⟨rfl, rfl, rfl, rfl, rfl, rfl, rfl⟩ (by omega) (by omega))) | (exact HQ.out (by simp) _ ⟨_, _, _, _, _, _, rfl, rfl, rfl, rfl, rfl, rfl, rfl⟩)
end Go.Proofs.YtdfolbmoohcblaaGreatDoor
