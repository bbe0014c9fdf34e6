/-
For FnReadAgain, part 12: W5e W5f.
-/
import Derived.Test.YtdfolbmoohcblaaGreatDoorM11
set_option linter.all false
namespace Go.Proofs.YtdfolbmoohcblaaGreatDoor
set_option maxHeartbeats 4000000
set_option maxRecDepth 100000
open Go.RowKit
theorem h_under (s : ByteArray) (hs : s.size <= 1099511627776) (neg us : Bool) (m : Int) (dot dig : Bool) (nd ndm : Nat) (dp : Int) (tr : Bool) (pos : Nat) (x : Nat -> Value) (w : World) (K : Act -> World -> Prop) (Q : Exit -> Act -> World -> Prop) (c : UInt8) (hp : pos < s.size) (hcc : s[pos] = c)
  (hpl : pos <= s.size) (i1 : nd <= pos) (i2 : -(pos : Int) <= dp) (i3 : dp <= pos) (i4 : ndm <= 16) (i6 : ndm <= nd) (im : 0 <= m) (c95 : c = 95)
  (hK : ∀ x', K (FH s neg (true) (m) (dot) (dig) (nd) (ndm) (dp) (tr) (pos + 1) x') w) :
  Code.wp Tryz.prog bodyR (Exit.then K Q) (FH s neg us m dot dig nd ndm dp tr pos x) w := by
 conv => arg 2; whnf
 have b95 : ((s[pos].toNat : Int) == 95) = true := by rw [hcc]; exact int_eq' (n := 95) (by decide) c95
 clear hcc c95
 unfold FH
 go_wp2_with fail
 all_goals (exact of_x (FH s neg (true) (m) (dot) (dig) (nd) (ndm) (dp) (tr) (pos + 1)) hK _ rfl)
theorem h_dot (s : ByteArray) (hs : s.size <= 1099511627776) (neg us : Bool) (m : Int) (dot dig : Bool) (nd ndm : Nat) (dp : Int) (tr : Bool) (pos : Nat) (x : Nat -> Value) (w : World) (K : Act -> World -> Prop) (Q : Exit -> Act -> World -> Prop) (c : UInt8) (hp : pos < s.size) (hcc : s[pos] = c)
  (hpl : pos <= s.size) (i1 : nd <= pos) (i2 : -(pos : Int) <= dp) (i3 : dp <= pos) (i4 : ndm <= 16) (i6 : ndm <= nd) (im : 0 <= m) (c95 : c ≠ 95) (c46 : c = 46) (hdot : dot = false)
  (hK : ∀ x', K (FH s neg (us) (m) (true) (dig) (nd) (ndm) ((nd : Int)) (tr) (pos + 1) x') w) :
  Code.wp Tryz.prog bodyR (Exit.then K Q) (FH s neg us m dot dig nd ndm dp tr pos x) w := by
 conv => arg 2; whnf
 have b95 : ((s[pos].toNat : Int) == 95) = false := by rw [hcc]; exact int_ne' (n := 95) (by decide) c95
 have b46 : ((s[pos].toNat : Int) == 46) = true := by rw [hcc]; exact int_eq' (n := 46) (by decide) c46
 subst hdot
 clear hcc c95 c46
 unfold FH
 go_wp2_with fail
 all_goals (exact of_x (FH s neg (us) (m) (true) (dig) (nd) (ndm) ((nd : Int)) (tr) (pos + 1)) hK _ rfl)
theorem h_dot2 (s : ByteArray) (hs : s.size <= 1099511627776) (neg us : Bool) (m : Int) (dot dig : Bool) (nd ndm : Nat) (dp : Int) (tr : Bool) (pos : Nat) (x : Nat -> Value) (w : World) (K : Act -> World -> Prop) (Q : Exit -> Act -> World -> Prop) (c : UInt8) (hp : pos < s.size) (hcc : s[pos] = c)
  (hpl : pos <= s.size) (i1 : nd <= pos) (i2 : -(pos : Int) <= dp) (i3 : dp <= pos) (i4 : ndm <= 16) (i6 : ndm <= nd) (im : 0 <= m) (c95 : c ≠ 95) (c46 : c = 46) (hdot : dot = true)
  (hQ : ∀ x', Q (.exit 1) (FH s neg us m dot dig nd ndm dp tr pos x') w) :
  Code.wp Tryz.prog bodyR (Exit.then K Q) (FH s neg us m dot dig nd ndm dp tr pos x) w := by
 conv => arg 2; whnf
 have b95 : ((s[pos].toNat : Int) == 95) = false := by rw [hcc]; exact int_ne' (n := 95) (by decide) c95
 have b46 : ((s[pos].toNat : Int) == 46) = true := by rw [hcc]; exact int_eq' (n := 46) (by decide) c46
 subst hdot
 clear hcc c95 c46
 unfold FH
 go_wp2_with fail
 all_goals (exact of_xq (FH s neg us m true dig nd ndm dp tr pos) hQ _ rfl)
theorem h_zero (s : ByteArray) (hs : s.size <= 1099511627776) (neg us : Bool) (m : Int) (dot dig : Bool) (nd ndm : Nat) (dp : Int) (tr : Bool) (pos : Nat) (x : Nat -> Value) (w : World) (K : Act -> World -> Prop) (Q : Exit -> Act -> World -> Prop) (c : UInt8) (hp : pos < s.size) (hcc : s[pos] = c)
  (hpl : pos <= s.size) (i1 : nd <= pos) (i2 : -(pos : Int) <= dp) (i3 : dp <= pos) (i4 : ndm <= 16) (i6 : ndm <= nd) (im : 0 <= m) (c95 : c ≠ 95) (c46 : c ≠ 46) (d1 : 48 <= c.toNat) (d2 : c.toNat <= 57) (c48 : c = 48) (hnd : nd = 0)
  (hK : ∀ x', K (FH s neg (us) (m) (dot) (true) (nd) (ndm) (dp - 1) (tr) (pos + 1) x') w) :
  Code.wp Tryz.prog bodyR (Exit.then K Q) (FH s neg us m dot dig nd ndm dp tr pos x) w := by
 conv => arg 2; whnf
 have b95 : ((s[pos].toNat : Int) == 95) = false := by rw [hcc]; exact int_ne' (n := 95) (by decide) c95
 have b46 : ((s[pos].toNat : Int) == 46) = false := by rw [hcc]; exact int_ne' (n := 46) (by decide) c46
 have hcn : (s[pos].toNat : Int) = c.toNat := by rw [hcc]
 have g1 : 48 <= (s[pos].toNat : Int) := by omega
 have g2 : (s[pos].toNat : Int) <= 57 := by omega
 have b48 : ((s[pos].toNat : Int) == 48) = true := by rw [hcc]; exact int_eq' (n := 48) (by decide) c48
 have b48n : ((s[pos].toNat : Int) != 48) = false := by rw [bne, b48]; rfl
 have bnd : ((nd : Int) == 0) = true := by rw [beq_iff_eq]; omega
 clear hcc c95 c46 c48 hcn hnd
 unfold FH
 go_wp2_with fail
 all_goals (exact of_x (FH s neg (us) (m) (dot) (true) (nd) (ndm) (dp - 1) (tr) (pos + 1)) hK _ rfl)
theorem h_dz (s : ByteArray) (hs : s.size <= 1099511627776) (neg us : Bool) (m : Int) (dot dig : Bool) (nd ndm : Nat) (dp : Int) (tr : Bool) (pos : Nat) (x : Nat -> Value) (w : World) (K : Act -> World -> Prop) (Q : Exit -> Act -> World -> Prop) (c : UInt8) (hp : pos < s.size) (hcc : s[pos] = c)
  (hpl : pos <= s.size) (i1 : nd <= pos) (i2 : -(pos : Int) <= dp) (i3 : dp <= pos) (i4 : ndm <= 16) (i6 : ndm <= nd) (im : 0 <= m) (c95 : c ≠ 95) (c46 : c ≠ 46) (d1 : 48 <= c.toNat) (d2 : c.toNat <= 57) (c48 : c = 48) (hnd : nd ≠ 0) (ck : ndm < 16) (hm : m < 1152921504606846976)
  (hK : ∀ x', K (FH s neg (us) (m * 16 + (s[pos].toNat - 48)) (dot) (true) (nd + 1) (ndm + 1) (dp) (tr) (pos + 1) x') w) :
  Code.wp Tryz.prog bodyR (Exit.then K Q) (FH s neg us m dot dig nd ndm dp tr pos x) w := by
 conv => arg 2; whnf
 have b95 : ((s[pos].toNat : Int) == 95) = false := by rw [hcc]; exact int_ne' (n := 95) (by decide) c95
 have b46 : ((s[pos].toNat : Int) == 46) = false := by rw [hcc]; exact int_ne' (n := 46) (by decide) c46
 have hcn : (s[pos].toNat : Int) = c.toNat := by rw [hcc]
 have g1 : 48 <= (s[pos].toNat : Int) := by omega
 have g2 : (s[pos].toNat : Int) <= 57 := by omega
 have b48 : ((s[pos].toNat : Int) == 48) = true := by rw [hcc]; exact int_eq' (n := 48) (by decide) c48
 have b48n : ((s[pos].toNat : Int) != 48) = false := by rw [bne, b48]; rfl
 have bnd : ((nd : Int) == 0) = false := by rw [beq_eq_false_iff_ne]; omega
 clear hcc c95 c46 c48 hcn
 unfold FH
 go_wp2_with fail
 all_goals (exact of_x (FH s neg (us) (m * 16 + (s[pos].toNat - 48)) (dot) (true) (nd + 1) (ndm + 1) (dp) (tr) (pos + 1)) hK _ rfl)
theorem h_dn (s : ByteArray) (hs : s.size <= 1099511627776) (neg us : Bool) (m : Int) (dot dig : Bool) (nd ndm : Nat) (dp : Int) (tr : Bool) (pos : Nat) (x : Nat -> Value) (w : World) (K : Act -> World -> Prop) (Q : Exit -> Act -> World -> Prop) (c : UInt8) (hp : pos < s.size) (hcc : s[pos] = c)
  (hpl : pos <= s.size) (i1 : nd <= pos) (i2 : -(pos : Int) <= dp) (i3 : dp <= pos) (i4 : ndm <= 16) (i6 : ndm <= nd) (im : 0 <= m) (c95 : c ≠ 95) (c46 : c ≠ 46) (d1 : 48 <= c.toNat) (d2 : c.toNat <= 57) (c48 : c ≠ 48) (ck : ndm < 16) (hm : m < 1152921504606846976)
  (hK : ∀ x', K (FH s neg (us) (m * 16 + (s[pos].toNat - 48)) (dot) (true) (nd + 1) (ndm + 1) (dp) (tr) (pos + 1) x') w) :
  Code.wp Tryz.prog bodyR (Exit.then K Q) (FH s neg us m dot dig nd ndm dp tr pos x) w := by
 conv => arg 2; whnf
 have b95 : ((s[pos].toNat : Int) == 95) = false := by rw [hcc]; exact int_ne' (n := 95) (by decide) c95
 have b46 : ((s[pos].toNat : Int) == 46) = false := by rw [hcc]; exact int_ne' (n := 46) (by decide) c46
 have hcn : (s[pos].toNat : Int) = c.toNat := by rw [hcc]
 have g1 : 48 <= (s[pos].toNat : Int) := by omega
 have g2 : (s[pos].toNat : Int) <= 57 := by omega
 have b48 : ((s[pos].toNat : Int) == 48) = false := by rw [hcc]; exact int_ne' (n := 48) (by decide) c48
 have b48n : ((s[pos].toNat : Int) != 48) = true := by rw [bne, b48]; rfl
 clear hcc c95 c46 c48 hcn
 unfold FH
 go_wp2_with fail
 all_goals (exact of_x (FH s neg (us) (m * 16 + (s[pos].toNat - 48)) (dot) (true) (nd + 1) (ndm + 1) (dp) (tr) (pos + 1)) hK _ rfl)
theorem h_tz (s : ByteArray) (hs : s.size <= 1099511627776) (neg us : Bool) (m : Int) (dot dig : Bool) (nd ndm : Nat) (dp : Int) (tr : Bool) (pos : Nat) (x : Nat -> Value) (w : World) (K : Act -> World -> Prop) (Q : Exit -> Act -> World -> Prop) (c : UInt8) (hp : pos < s.size) (hcc : s[pos] = c)
  (hpl : pos <= s.size) (i1 : nd <= pos) (i2 : -(pos : Int) <= dp) (i3 : dp <= pos) (i4 : ndm <= 16) (i6 : ndm <= nd) (im : 0 <= m) (c95 : c ≠ 95) (c46 : c ≠ 46) (d1 : 48 <= c.toNat) (d2 : c.toNat <= 57) (c48 : c = 48) (hnd : nd ≠ 0) (ck : ¬ ndm < 16)
  (hK : ∀ x', K (FH s neg (us) (m) (dot) (true) (nd + 1) (ndm) (dp) (tr) (pos + 1) x') w) :
  Code.wp Tryz.prog bodyR (Exit.then K Q) (FH s neg us m dot dig nd ndm dp tr pos x) w := by
 conv => arg 2; whnf
 have b95 : ((s[pos].toNat : Int) == 95) = false := by rw [hcc]; exact int_ne' (n := 95) (by decide) c95
 have b46 : ((s[pos].toNat : Int) == 46) = false := by rw [hcc]; exact int_ne' (n := 46) (by decide) c46
 have hcn : (s[pos].toNat : Int) = c.toNat := by rw [hcc]
 have g1 : 48 <= (s[pos].toNat : Int) := by omega
 have g2 : (s[pos].toNat : Int) <= 57 := by omega
 have b48 : ((s[pos].toNat : Int) == 48) = true := by rw [hcc]; exact int_eq' (n := 48) (by decide) c48
 have b48n : ((s[pos].toNat : Int) != 48) = false := by rw [bne, b48]; rfl
 have bnd : ((nd : Int) == 0) = false := by rw [beq_eq_false_iff_ne]; omega
 clear hcc c95 c46 c48 hcn
 unfold FH
 go_wp2_with fail
 all_goals (exact of_x (FH s neg (us) (m) (dot) (true) (nd + 1) (ndm) (dp) (tr) (pos + 1)) hK _ rfl)
theorem h_tn (s : ByteArray) (hs : s.size <= 1099511627776) (neg us : Bool) (m : Int) (dot dig : Bool) (nd ndm : Nat) (dp : Int) (tr : Bool) (pos : Nat) (x : Nat -> Value) (w : World) (K : Act -> World -> Prop) (Q : Exit -> Act -> World -> Prop) (c : UInt8) (hp : pos < s.size) (hcc : s[pos] = c)
  (hpl : pos <= s.size) (i1 : nd <= pos) (i2 : -(pos : Int) <= dp) (i3 : dp <= pos) (i4 : ndm <= 16) (i6 : ndm <= nd) (im : 0 <= m) (c95 : c ≠ 95) (c46 : c ≠ 46) (d1 : 48 <= c.toNat) (d2 : c.toNat <= 57) (c48 : c ≠ 48) (ck : ¬ ndm < 16)
  (hK : ∀ x', K (FH s neg (us) (m) (dot) (true) (nd + 1) (ndm) (dp) (true) (pos + 1) x') w) :
  Code.wp Tryz.prog bodyR (Exit.then K Q) (FH s neg us m dot dig nd ndm dp tr pos x) w := by
 conv => arg 2; whnf
 have b95 : ((s[pos].toNat : Int) == 95) = false := by rw [hcc]; exact int_ne' (n := 95) (by decide) c95
 have b46 : ((s[pos].toNat : Int) == 46) = false := by rw [hcc]; exact int_ne' (n := 46) (by decide) c46
 have hcn : (s[pos].toNat : Int) = c.toNat := by rw [hcc]
 have g1 : 48 <= (s[pos].toNat : Int) := by omega
 have g2 : (s[pos].toNat : Int) <= 57 := by omega
 have b48 : ((s[pos].toNat : Int) == 48) = false := by rw [hcc]; exact int_ne' (n := 48) (by decide) c48
 have b48n : ((s[pos].toNat : Int) != 48) = true := by rw [bne, b48]; rfl
 clear hcc c95 c46 c48 hcn
 unfold FH
 go_wp2_with fail
 all_goals (exact of_x (FH s neg (us) (m) (dot) (true) (nd + 1) (ndm) (dp) (true) (pos + 1)) hK _ rfl)
theorem h_let0 (s : ByteArray) (hs : s.size <= 1099511627776) (neg us : Bool) (m : Int) (dot dig : Bool) (nd ndm : Nat) (dp : Int) (tr : Bool) (pos : Nat) (x : Nat -> Value) (w : World) (K : Act -> World -> Prop) (Q : Exit -> Act -> World -> Prop) (c : UInt8) (hp : pos < s.size) (hcc : s[pos] = c)
  (hpl : pos <= s.size) (i1 : nd <= pos) (i2 : -(pos : Int) <= dp) (i3 : dp <= pos) (i4 : ndm <= 16) (i6 : ndm <= nd) (im : 0 <= m) (c95 : c ≠ 95) (c46 : c ≠ 46) (d1 : 48 <= c.toNat) (d2 : 57 < c.toNat) (g97 : 97 <= lo c) (g102 : lo c <= 102) (ck : ndm < 16) (hm : m < 1152921504606846976)
  (hK : ∀ x', K (FH s neg (us) (m * 16 + ((lo c : Int) - 87)) (dot) (true) (nd + 1) (ndm + 1) (dp) (tr) (pos + 1) x') w) :
  Code.wp Tryz.prog bodyR (Exit.then K Q) (FH s neg us m dot dig nd ndm dp tr pos x) w := by
 conv => arg 2; whnf
 have b95 : ((s[pos].toNat : Int) == 95) = false := by rw [hcc]; exact int_ne' (n := 95) (by decide) c95
 have b46 : ((s[pos].toNat : Int) == 46) = false := by rw [hcc]; exact int_ne' (n := 46) (by decide) c46
 have hcn : (s[pos].toNat : Int) = c.toNat := by rw [hcc]
 have g1 : 48 <= (s[pos].toNat : Int) := by omega
 have g2 : ¬ (s[pos].toNat : Int) <= 57 := by omega
 have hlow2 := low2 hcc
 have hlo8 := lo_lt c
 generalize lo c = L at hlow2 hlo8 g97 g102 hK
 clear hcc c95 c46 hcn
 unfold FH
 go_wp2_with (go_at_call 114; refine (hlow2 _).mono ?_; rintro e w' ⟨rfl, rfl⟩)
 all_goals (rw [show m * 16 + ((L : Int) - 97 + 10) = m * 16 + ((L : Int) - 87) from by omega]; exact of_x (FH s neg (us) (m * 16 + ((L : Int) - 87)) (dot) (true) (nd + 1) (ndm + 1) (dp) (tr) (pos + 1)) hK _ rfl)
theorem h_tlet0 (s : ByteArray) (hs : s.size <= 1099511627776) (neg us : Bool) (m : Int) (dot dig : Bool) (nd ndm : Nat) (dp : Int) (tr : Bool) (pos : Nat) (x : Nat -> Value) (w : World) (K : Act -> World -> Prop) (Q : Exit -> Act -> World -> Prop) (c : UInt8) (hp : pos < s.size) (hcc : s[pos] = c)
  (hpl : pos <= s.size) (i1 : nd <= pos) (i2 : -(pos : Int) <= dp) (i3 : dp <= pos) (i4 : ndm <= 16) (i6 : ndm <= nd) (im : 0 <= m) (c95 : c ≠ 95) (c46 : c ≠ 46) (d1 : 48 <= c.toNat) (d2 : 57 < c.toNat) (g97 : 97 <= lo c) (g102 : lo c <= 102) (ck : ¬ ndm < 16)
  (hK : ∀ x', K (FH s neg (us) (m) (dot) (true) (nd + 1) (ndm) (dp) (true) (pos + 1) x') w) :
  Code.wp Tryz.prog bodyR (Exit.then K Q) (FH s neg us m dot dig nd ndm dp tr pos x) w := by
 conv => arg 2; whnf
 have b95 : ((s[pos].toNat : Int) == 95) = false := by rw [hcc]; exact int_ne' (n := 95) (by decide) c95
 have b46 : ((s[pos].toNat : Int) == 46) = false := by rw [hcc]; exact int_ne' (n := 46) (by decide) c46
 have hcn : (s[pos].toNat : Int) = c.toNat := by rw [hcc]
 have g1 : 48 <= (s[pos].toNat : Int) := by omega
 have g2 : ¬ (s[pos].toNat : Int) <= 57 := by omega
 have hlow2 := low2 hcc
 have hlo8 := lo_lt c
 generalize lo c = L at hlow2 hlo8 g97 g102
 clear hcc c95 c46 hcn
 unfold FH
 go_wp2_with (go_at_call 114; refine (hlow2 _).mono ?_; rintro e w' ⟨rfl, rfl⟩)
 all_goals (exact of_x (FH s neg (us) (m) (dot) (true) (nd + 1) (ndm) (dp) (true) (pos + 1)) hK _ rfl)
theorem h_stopa0 (s : ByteArray) (hs : s.size <= 1099511627776) (neg us : Bool) (m : Int) (dot dig : Bool) (nd ndm : Nat) (dp : Int) (tr : Bool) (pos : Nat) (x : Nat -> Value) (w : World) (K : Act -> World -> Prop) (Q : Exit -> Act -> World -> Prop) (c : UInt8) (hp : pos < s.size) (hcc : s[pos] = c)
  (hpl : pos <= s.size) (i1 : nd <= pos) (i2 : -(pos : Int) <= dp) (i3 : dp <= pos) (i4 : ndm <= 16) (i6 : ndm <= nd) (im : 0 <= m) (c95 : c ≠ 95) (c46 : c ≠ 46) (d1 : 48 <= c.toNat) (d2 : 57 < c.toNat) (g97 : lo c < 97)
  (hQ : ∀ x', Q (.exit 1) (FH s neg us m dot dig nd ndm dp tr pos x') w) :
  Code.wp Tryz.prog bodyR (Exit.then K Q) (FH s neg us m dot dig nd ndm dp tr pos x) w := by
 conv => arg 2; whnf
 have b95 : ((s[pos].toNat : Int) == 95) = false := by rw [hcc]; exact int_ne' (n := 95) (by decide) c95
 have b46 : ((s[pos].toNat : Int) == 46) = false := by rw [hcc]; exact int_ne' (n := 46) (by decide) c46
 have hcn : (s[pos].toNat : Int) = c.toNat := by rw [hcc]
 have g1 : 48 <= (s[pos].toNat : Int) := by omega
 have g2 : ¬ (s[pos].toNat : Int) <= 57 := by omega
 have hlow2 := low2 hcc
 have hlo8 := lo_lt c
 generalize lo c = L at hlow2 hlo8 g97
 clear hcc c95 c46 hcn
 unfold FH
 go_wp2_with (go_at_call 114; refine (hlow2 _).mono ?_; rintro e w' ⟨rfl, rfl⟩)
 all_goals (exact of_xq (FH s neg us m dot dig nd ndm dp tr pos) hQ _ rfl)
theorem h_stopb0 (s : ByteArray) (hs : s.size <= 1099511627776) (neg us : Bool) (m : Int) (dot dig : Bool) (nd ndm : Nat) (dp : Int) (tr : Bool) (pos : Nat) (x : Nat -> Value) (w : World) (K : Act -> World -> Prop) (Q : Exit -> Act -> World -> Prop) (c : UInt8) (hp : pos < s.size) (hcc : s[pos] = c)
  (hpl : pos <= s.size) (i1 : nd <= pos) (i2 : -(pos : Int) <= dp) (i3 : dp <= pos) (i4 : ndm <= 16) (i6 : ndm <= nd) (im : 0 <= m) (c95 : c ≠ 95) (c46 : c ≠ 46) (d1 : 48 <= c.toNat) (d2 : 57 < c.toNat) (g97 : 97 <= lo c) (g102 : 102 < lo c)
  (hQ : ∀ x', Q (.exit 1) (FH s neg us m dot dig nd ndm dp tr pos x') w) :
  Code.wp Tryz.prog bodyR (Exit.then K Q) (FH s neg us m dot dig nd ndm dp tr pos x) w := by
 conv => arg 2; whnf
 have b95 : ((s[pos].toNat : Int) == 95) = false := by rw [hcc]; exact int_ne' (n := 95) (by decide) c95
 have b46 : ((s[pos].toNat : Int) == 46) = false := by rw [hcc]; exact int_ne' (n := 46) (by decide) c46
 have hcn : (s[pos].toNat : Int) = c.toNat := by rw [hcc]
 have g1 : 48 <= (s[pos].toNat : Int) := by omega
 have g2 : ¬ (s[pos].toNat : Int) <= 57 := by omega
 have hlow2 := low2 hcc
 have hlo8 := lo_lt c
 generalize lo c = L at hlow2 hlo8 g97 g102
 clear hcc c95 c46 hcn
 unfold FH
 go_wp2_with (go_at_call 114; refine (hlow2 _).mono ?_; rintro e w' ⟨rfl, rfl⟩)
 all_goals (exact of_xq (FH s neg us m dot dig nd ndm dp tr pos) hQ _ rfl)
theorem h_let1 (s : ByteArray) (hs : s.size <= 1099511627776) (neg us : Bool) (m : Int) (dot dig : Bool) (nd ndm : Nat) (dp : Int) (tr : Bool) (pos : Nat) (x : Nat -> Value) (w : World) (K : Act -> World -> Prop) (Q : Exit -> Act -> World -> Prop) (c : UInt8) (hp : pos < s.size) (hcc : s[pos] = c)
  (hpl : pos <= s.size) (i1 : nd <= pos) (i2 : -(pos : Int) <= dp) (i3 : dp <= pos) (i4 : ndm <= 16) (i6 : ndm <= nd) (im : 0 <= m) (c95 : c ≠ 95) (c46 : c ≠ 46) (d1 : c.toNat < 48) (g97 : 97 <= lo c) (g102 : lo c <= 102) (ck : ndm < 16) (hm : m < 1152921504606846976)
  (hK : ∀ x', K (FH s neg (us) (m * 16 + ((lo c : Int) - 87)) (dot) (true) (nd + 1) (ndm + 1) (dp) (tr) (pos + 1) x') w) :
  Code.wp Tryz.prog bodyR (Exit.then K Q) (FH s neg us m dot dig nd ndm dp tr pos x) w := by
 conv => arg 2; whnf
 have b95 : ((s[pos].toNat : Int) == 95) = false := by rw [hcc]; exact int_ne' (n := 95) (by decide) c95
 have b46 : ((s[pos].toNat : Int) == 46) = false := by rw [hcc]; exact int_ne' (n := 46) (by decide) c46
 have hcn : (s[pos].toNat : Int) = c.toNat := by rw [hcc]
 have g1 : ¬ 48 <= (s[pos].toNat : Int) := by omega
 have hlow2 := low2 hcc
 have hlo8 := lo_lt c
 generalize lo c = L at hlow2 hlo8 g97 g102 hK
 clear hcc c95 c46 hcn
 unfold FH
 go_wp2_with (go_at_call 114; refine (hlow2 _).mono ?_; rintro e w' ⟨rfl, rfl⟩)
 all_goals (rw [show m * 16 + ((L : Int) - 97 + 10) = m * 16 + ((L : Int) - 87) from by omega]; exact of_x (FH s neg (us) (m * 16 + ((L : Int) - 87)) (dot) (true) (nd + 1) (ndm + 1) (dp) (tr) (pos + 1)) hK _ rfl)
theorem h_tlet1 (s : ByteArray) (hs : s.size <= 1099511627776) (neg us : Bool) (m : Int) (dot dig : Bool) (nd ndm : Nat) (dp : Int) (tr : Bool) (pos : Nat) (x : Nat -> Value) (w : World) (K : Act -> World -> Prop) (Q : Exit -> Act -> World -> Prop) (c : UInt8) (hp : pos < s.size) (hcc : s[pos] = c)
  (hpl : pos <= s.size) (i1 : nd <= pos) (i2 : -(pos : Int) <= dp) (i3 : dp <= pos) (i4 : ndm <= 16) (i6 : ndm <= nd) (im : 0 <= m) (c95 : c ≠ 95) (c46 : c ≠ 46) (d1 : c.toNat < 48) (g97 : 97 <= lo c) (g102 : lo c <= 102) (ck : ¬ ndm < 16)
  (hK : ∀ x', K (FH s neg (us) (m) (dot) (true) (nd + 1) (ndm) (dp) (true) (pos + 1) x') w) :
  Code.wp Tryz.prog bodyR (Exit.then K Q) (FH s neg us m dot dig nd ndm dp tr pos x) w := by
 conv => arg 2; whnf
 have b95 : ((s[pos].toNat : Int) == 95) = false := by rw [hcc]; exact int_ne' (n := 95) (by decide) c95
 have b46 : ((s[pos].toNat : Int) == 46) = false := by rw [hcc]; exact int_ne' (n := 46) (by decide) c46
 have hcn : (s[pos].toNat : Int) = c.toNat := by rw [hcc]
 have g1 : ¬ 48 <= (s[pos].toNat : Int) := by omega
 have hlow2 := low2 hcc
 have hlo8 := lo_lt c
 generalize lo c = L at hlow2 hlo8 g97 g102
 clear hcc c95 c46 hcn
 unfold FH
 go_wp2_with (go_at_call 114; refine (hlow2 _).mono ?_; rintro e w' ⟨rfl, rfl⟩)
 all_goals (exact of_x (FH s neg (us) (m) (dot) (true) (nd + 1) (ndm) (dp) (true) (pos + 1)) hK _ rfl)
theorem h_stopa1 (s : ByteArray) (hs : s.size <= 1099511627776) (neg us : Bool) (m : Int) (dot dig : Bool) (nd ndm : Nat) (dp : Int) (tr : Bool) (pos : Nat) (x : Nat -> Value) (w : World) (K : Act -> World -> Prop) (Q : Exit -> Act -> World -> Prop) (c : UInt8) (hp : pos < s.size) (hcc : s[pos] = c)
  (hpl : pos <= s.size) (i1 : nd <= pos) (i2 : -(pos : Int) <= dp) (i3 : dp <= pos) (i4 : ndm <= 16) (i6 : ndm <= nd) (im : 0 <= m) (c95 : c ≠ 95) (c46 : c ≠ 46) (d1 : c.toNat < 48) (g97 : lo c < 97)
  (hQ : ∀ x', Q (.exit 1) (FH s neg us m dot dig nd ndm dp tr pos x') w) :
  Code.wp Tryz.prog bodyR (Exit.then K Q) (FH s neg us m dot dig nd ndm dp tr pos x) w := by
 conv => arg 2; whnf
 have b95 : ((s[pos].toNat : Int) == 95) = false := by rw [hcc]; exact int_ne' (n := 95) (by decide) c95
 have b46 : ((s[pos].toNat : Int) == 46) = false := by rw [hcc]; exact int_ne' (n := 46) (by decide) c46
 have hcn : (s[pos].toNat : Int) = c.toNat := by rw [hcc]
 have g1 : ¬ 48 <= (s[pos].toNat : Int) := by omega
 have hlow2 := low2 hcc
 have hlo8 := lo_lt c
 generalize lo c = L at hlow2 hlo8 g97
 clear hcc c95 c46 hcn
 unfold FH
 go_wp2_with (go_at_call 114; refine (hlow2 _).mono ?_; rintro e w' ⟨rfl, rfl⟩)
 all_goals (exact of_xq (FH s neg us m dot dig nd ndm dp tr pos) hQ _ rfl)
theorem h_stopb1 (s : ByteArray) (hs : s.size <= 1099511627776) (neg us : Bool) (m : Int) (dot dig : Bool) (nd ndm : Nat) (dp : Int) (tr : Bool) (pos : Nat) (x : Nat -> Value) (w : World) (K : Act -> World -> Prop) (Q : Exit -> Act -> World -> Prop) (c : UInt8) (hp : pos < s.size) (hcc : s[pos] = c)
  (hpl : pos <= s.size) (i1 : nd <= pos) (i2 : -(pos : Int) <= dp) (i3 : dp <= pos) (i4 : ndm <= 16) (i6 : ndm <= nd) (im : 0 <= m) (c95 : c ≠ 95) (c46 : c ≠ 46) (d1 : c.toNat < 48) (g97 : 97 <= lo c) (g102 : 102 < lo c)
  (hQ : ∀ x', Q (.exit 1) (FH s neg us m dot dig nd ndm dp tr pos x') w) :
  Code.wp Tryz.prog bodyR (Exit.then K Q) (FH s neg us m dot dig nd ndm dp tr pos x) w := by
 conv => arg 2; whnf
 have b95 : ((s[pos].toNat : Int) == 95) = false := by rw [hcc]; exact int_ne' (n := 95) (by decide) c95
 have b46 : ((s[pos].toNat : Int) == 46) = false := by rw [hcc]; exact int_ne' (n := 46) (by decide) c46
 have hcn : (s[pos].toNat : Int) = c.toNat := by rw [hcc]
 have g1 : ¬ 48 <= (s[pos].toNat : Int) := by omega
 have hlow2 := low2 hcc
 have hlo8 := lo_lt c
 generalize lo c = L at hlow2 hlo8 g97 g102
 clear hcc c95 c46 hcn
 unfold FH
 go_wp2_with (go_at_call 114; refine (hlow2 _).mono ?_; rintro e w' ⟨rfl, rfl⟩)
 all_goals (exact of_xq (FH s neg us m dot dig nd ndm dp tr pos) hQ _ rfl)
theorem h_fin (s : ByteArray) (hs : s.size <= 1099511627776) (neg us : Bool) (m : Int) (dot dig : Bool) (nd ndm : Nat) (dp : Int) (tr : Bool) (pos : Nat) (x : Nat -> Value) (w : World) (K : Act -> World -> Prop) (Q : Exit -> Act -> World -> Prop) (c : UInt8) (hp : ¬ pos < s.size)
  (hpl : pos <= s.size) (i1 : nd <= pos) (i2 : -(pos : Int) <= dp) (i3 : dp <= pos) (i4 : ndm <= 16) (i6 : ndm <= nd) (im : 0 <= m)
  (hQ : ∀ x', Q (.exit 1) (FH s neg us m dot dig nd ndm dp tr pos x') w) :
  Code.wp Tryz.prog bodyR (Exit.then K Q) (FH s neg us m dot dig nd ndm dp tr pos x) w := by
 conv => arg 2; whnf
 unfold FH
 go_wp2_with fail
 all_goals (exact of_xq (FH s neg us m dot dig nd ndm dp tr pos) hQ _ rfl)
def IFD (s : ByteArray) (neg : Bool) (J : Nat) (w : World) (k : Nat) (a : Act) (w' : World) : Prop :=
 ∃ (pos : Nat) (st : RS) (x : Nat -> Value), k = (ls s).length - pos /\ LRp false (ls s) J pos st /\ FD s neg st.us st.m st.dot st.dig st.nd st.ndm st.dp st.tr pos x = a /\ w = w'
theorem loop_FD (s : ByteArray) (hs : s.size <= 1099511627776) (neg : Bool) (J : Nat) (hJ : J <= s.size) (x : Nat -> Value) (w : World) (Q : Exit -> Act -> World -> Prop)
  (hexit : ∀ pos st x', LRe false (ls s) J pos st -> Q (.exit 1) (FD s neg st.us st.m st.dot st.dig st.nd st.ndm st.dp st.tr pos x') w) :
  Code.wp Tryz.prog (Code.loop bodyR) Q (FD s neg false 0 false false 0 0 0 false J x) w := by
 refine wp_loop_ghost (IFD s neg J w) (s.size - J) ⟨J, RS0, x, rfl, LRp.start _ _ _ hJ, rfl, rfl⟩ ?_
 rintro k a w' ⟨pos, st, x, hk, hL, rfl, rfl⟩
 obtain ⟨us, m, dot, dig, nd, ndm, dp, tr⟩ := st
 have hpl := hL.pl
 rw [ls_length] at hpl hk
 have i1 := hL.inv.nd
 have i2 := hL.inv.lo
 have i3 := hL.inv.hi
 have i4 : ndm <= 19 := hL.inv.k
 have i5 := hL.inv.m
 have i6 := hL.inv.le
 have im : (0 : Int) <= m := by omega
 dsimp only at i1 i2 i3 i5 i6 ⊢
 by_cases hp : pos < s.size
 ·have hc := ls_getElem? s pos hp
  obtain ⟨c, hcc⟩ : ∃ c, s[pos] = c := ⟨_, rfl⟩
  rw [hcc] at hc
  by_cases c95 : c = 95
  ·exact d_under s hs neg us m dot dig nd ndm dp tr pos x w _ Q c hp hcc hpl i1 i2 i3 i4 i6 im c95 (fun x' => ⟨k - 1, by omega, pos + 1, { us := true, m := m, dot := dot, dig := dig, nd := nd, ndm := ndm, dp := dp, tr := tr }, x', by rw [ls_length]; omega, hL.next hc (by unfold stepR; rw [if_pos c95]), rfl, rfl⟩)
  by_cases c46 : c = 46
  ·cases dot
   ·exact d_dot s hs neg us m false dig nd ndm dp tr pos x w _ Q c hp hcc hpl i1 i2 i3 i4 i6 im c95 c46 rfl (fun x' => ⟨k - 1, by omega, pos + 1, { us := us, m := m, dot := true, dig := dig, nd := nd, ndm := ndm, dp := (nd : Int), tr := tr }, x', by rw [ls_length]; omega, hL.next hc (by unfold stepR; rw [if_neg c95, if_pos c46]; rfl), rfl, rfl⟩)
   ·exact d_dot2 s hs neg us m true dig nd ndm dp tr pos x w _ Q c hp hcc hpl i1 i2 i3 i4 i6 im c95 c46 rfl (fun x' => hexit _ _ x' (hL.stop hc (by unfold stepR; rw [if_neg c95, if_pos c46]; rfl)))
  by_cases cD : 48 <= c.toNat /\ c.toNat <= 57
  ·have hD := (isD_iff c).2 cD
   obtain ⟨d1, d2⟩ := cD
   by_cases c48 : c = 48
   ·by_cases hnd : nd = 0
    ·exact d_zero s hs neg us m dot dig nd ndm dp tr pos x w _ Q c hp hcc hpl i1 i2 i3 i4 i6 im c95 c46 d1 d2 c48 hnd (fun x' => ⟨k - 1, by omega, pos + 1, { us := us, m := m, dot := dot, dig := true, nd := nd, ndm := ndm, dp := dp - 1, tr := tr }, x', by rw [ls_length]; omega, hL.next hc (by unfold stepR; rw [if_neg c95, if_neg c46, if_pos hD, if_pos ⟨c48, hnd⟩]), rfl, rfl⟩)
    have cz : ¬ (c = 48 /\ nd = 0) := fun h => hnd h.2
    by_cases ck : ndm < 19
    ·exact d_dz s hs neg us m dot dig nd ndm dp tr pos x w _ Q c hp hcc hpl i1 i2 i3 i4 i6 im c95 c46 d1 d2 c48 hnd ck (by have := m_dec i5 ck; omega) (fun x' => ⟨k - 1, by omega, pos + 1, { us := us, m := m * bas false + (c.toNat - 48), dot := dot, dig := true, nd := nd + 1, ndm := ndm + 1, dp := dp, tr := tr }, x', by rw [ls_length]; omega, hL.next hc (by unfold stepR; rw [if_neg c95, if_neg c46, if_pos hD, if_neg cz]; exact if_pos ck), by rw [hcc]; show FD s neg _ (((m * bas false + (c.toNat - 48) : Nat)) : Int) _ _ _ _ _ _ _ _ = FD s neg _ _ _ _ _ _ _ _ _ _; rw [show (((m * bas false + (c.toNat - 48) : Nat)) : Int) = (m : Int) * 10 + ((c.toNat : Int) - 48) from by show (((m * 10 + (c.toNat - 48) : Nat)) : Int) = _; omega], rfl⟩)
    ·exact d_tz s hs neg us m dot dig nd ndm dp tr pos x w _ Q c hp hcc hpl i1 i2 i3 i4 i6 im c95 c46 d1 d2 c48 hnd ck (fun x' => ⟨k - 1, by omega, pos + 1, { us := us, m := m, dot := dot, dig := true, nd := nd + 1, ndm := ndm, dp := dp, tr := tr || c != 48 }, x', by rw [ls_length]; omega, hL.next hc (by unfold stepR; rw [if_neg c95, if_neg c46, if_pos hD, if_neg cz]; exact if_neg ck), by rw [c48]; simp, rfl⟩)
   ·have cz : ¬ (c = 48 /\ nd = 0) := fun h => c48 h.1
    by_cases ck : ndm < 19
    ·exact d_dn s hs neg us m dot dig nd ndm dp tr pos x w _ Q c hp hcc hpl i1 i2 i3 i4 i6 im c95 c46 d1 d2 c48 ck (by have := m_dec i5 ck; omega) (fun x' => ⟨k - 1, by omega, pos + 1, { us := us, m := m * bas false + (c.toNat - 48), dot := dot, dig := true, nd := nd + 1, ndm := ndm + 1, dp := dp, tr := tr }, x', by rw [ls_length]; omega, hL.next hc (by unfold stepR; rw [if_neg c95, if_neg c46, if_pos hD, if_neg cz]; exact if_pos ck), by rw [hcc]; show FD s neg _ (((m * bas false + (c.toNat - 48) : Nat)) : Int) _ _ _ _ _ _ _ _ = FD s neg _ _ _ _ _ _ _ _ _ _; rw [show (((m * bas false + (c.toNat - 48) : Nat)) : Int) = (m : Int) * 10 + ((c.toNat : Int) - 48) from by show (((m * 10 + (c.toNat - 48) : Nat)) : Int) = _; omega], rfl⟩)
    ·exact d_tn s hs neg us m dot dig nd ndm dp tr pos x w _ Q c hp hcc hpl i1 i2 i3 i4 i6 im c95 c46 d1 d2 c48 ck (fun x' => ⟨k - 1, by omega, pos + 1, { us := us, m := m, dot := dot, dig := true, nd := nd + 1, ndm := ndm, dp := dp, tr := tr || c != 48 }, x', by rw [ls_length]; omega, hL.next hc (by unfold stepR; rw [if_neg c95, if_neg c46, if_pos hD, if_neg cz]; exact if_neg ck), by rw [bne_iff_ne.2 c48]; simp, rfl⟩)
  have hD : ¬ isD c = true := by rw [isD_iff]; exact cD
  by_cases d1 : 48 <= c.toNat
  ·exact d_stop0 s hs neg us m dot dig nd ndm dp tr pos x w _ Q c hp hcc hpl i1 i2 i3 i4 i6 im c95 c46 d1 (by omega) (fun x' => hexit _ _ x' (hL.stop hc (by unfold stepR; rw [if_neg c95, if_neg c46, if_neg hD, if_neg (by simp)])))
  ·exact d_stop1 s hs neg us m dot dig nd ndm dp tr pos x w _ Q c hp hcc hpl i1 i2 i3 i4 i6 im c95 c46 (by omega) (fun x' => hexit _ _ x' (hL.stop hc (by unfold stepR; rw [if_neg c95, if_neg c46, if_neg hD, if_neg (by simp)])))
 ·exact d_fin s hs neg us m dot dig nd ndm dp tr pos x w _ Q 0 hp hpl i1 i2 i3 i4 i6 im (fun x' => hexit _ _ x' (hL.fin (by rw [ls_length]; omega)))
def IFH (s : ByteArray) (neg : Bool) (J : Nat) (w : World) (k : Nat) (a : Act) (w' : World) : Prop :=
 ∃ (pos : Nat) (st : RS) (x : Nat -> Value), k = (ls s).length - pos /\ LRp true (ls s) J pos st /\ FH s neg st.us st.m st.dot st.dig st.nd st.ndm st.dp st.tr pos x = a /\ w = w'
theorem loop_FH (s : ByteArray) (hs : s.size <= 1099511627776) (neg : Bool) (J : Nat) (hJ : J <= s.size) (x : Nat -> Value) (w : World) (Q : Exit -> Act -> World -> Prop)
  (hexit : ∀ pos st x', LRe true (ls s) J pos st -> Q (.exit 1) (FH s neg st.us st.m st.dot st.dig st.nd st.ndm st.dp st.tr pos x') w) :
  Code.wp Tryz.prog (Code.loop bodyR) Q (FH s neg false 0 false false 0 0 0 false J x) w := by
 refine wp_loop_ghost (IFH s neg J w) (s.size - J) ⟨J, RS0, x, rfl, LRp.start _ _ _ hJ, rfl, rfl⟩ ?_
 rintro k a w' ⟨pos, st, x, hk, hL, rfl, rfl⟩
 obtain ⟨us, m, dot, dig, nd, ndm, dp, tr⟩ := st
 have hpl := hL.pl
 rw [ls_length] at hpl hk
 have i1 := hL.inv.nd
 have i2 := hL.inv.lo
 have i3 := hL.inv.hi
 have i4 : ndm <= 16 := hL.inv.k
 have i5 := hL.inv.m
 have i6 := hL.inv.le
 have im : (0 : Int) <= m := by omega
 dsimp only at i1 i2 i3 i5 i6 ⊢
 by_cases hp : pos < s.size
 ·have hc := ls_getElem? s pos hp
  obtain ⟨c, hcc⟩ : ∃ c, s[pos] = c := ⟨_, rfl⟩
  rw [hcc] at hc
  by_cases c95 : c = 95
  ·exact h_under s hs neg us m dot dig nd ndm dp tr pos x w _ Q c hp hcc hpl i1 i2 i3 i4 i6 im c95 (fun x' => ⟨k - 1, by omega, pos + 1, { us := true, m := m, dot := dot, dig := dig, nd := nd, ndm := ndm, dp := dp, tr := tr }, x', by rw [ls_length]; omega, hL.next hc (by unfold stepR; rw [if_pos c95]), rfl, rfl⟩)
  by_cases c46 : c = 46
  ·cases dot
   ·exact h_dot s hs neg us m false dig nd ndm dp tr pos x w _ Q c hp hcc hpl i1 i2 i3 i4 i6 im c95 c46 rfl (fun x' => ⟨k - 1, by omega, pos + 1, { us := us, m := m, dot := true, dig := dig, nd := nd, ndm := ndm, dp := (nd : Int), tr := tr }, x', by rw [ls_length]; omega, hL.next hc (by unfold stepR; rw [if_neg c95, if_pos c46]; rfl), rfl, rfl⟩)
   ·exact h_dot2 s hs neg us m true dig nd ndm dp tr pos x w _ Q c hp hcc hpl i1 i2 i3 i4 i6 im c95 c46 rfl (fun x' => hexit _ _ x' (hL.stop hc (by unfold stepR; rw [if_neg c95, if_pos c46]; rfl)))
  by_cases cD : 48 <= c.toNat /\ c.toNat <= 57
  ·have hD := (isD_iff c).2 cD
   obtain ⟨d1, d2⟩ := cD
   by_cases c48 : c = 48
   ·by_cases hnd : nd = 0
    ·exact h_zero s hs neg us m dot dig nd ndm dp tr pos x w _ Q c hp hcc hpl i1 i2 i3 i4 i6 im c95 c46 d1 d2 c48 hnd (fun x' => ⟨k - 1, by omega, pos + 1, { us := us, m := m, dot := dot, dig := true, nd := nd, ndm := ndm, dp := dp - 1, tr := tr }, x', by rw [ls_length]; omega, hL.next hc (by unfold stepR; rw [if_neg c95, if_neg c46, if_pos hD, if_pos ⟨c48, hnd⟩]), rfl, rfl⟩)
    have cz : ¬ (c = 48 /\ nd = 0) := fun h => hnd h.2
    by_cases ck : ndm < 16
    ·exact h_dz s hs neg us m dot dig nd ndm dp tr pos x w _ Q c hp hcc hpl i1 i2 i3 i4 i6 im c95 c46 d1 d2 c48 hnd ck (by have := m_hex i5 ck; omega) (fun x' => ⟨k - 1, by omega, pos + 1, { us := us, m := m * bas true + (c.toNat - 48), dot := dot, dig := true, nd := nd + 1, ndm := ndm + 1, dp := dp, tr := tr }, x', by rw [ls_length]; omega, hL.next hc (by unfold stepR; rw [if_neg c95, if_neg c46, if_pos hD, if_neg cz]; exact if_pos ck), by rw [hcc]; show FH s neg _ (((m * bas true + (c.toNat - 48) : Nat)) : Int) _ _ _ _ _ _ _ _ = FH s neg _ _ _ _ _ _ _ _ _ _; rw [show (((m * bas true + (c.toNat - 48) : Nat)) : Int) = (m : Int) * 16 + ((c.toNat : Int) - 48) from by show (((m * 16 + (c.toNat - 48) : Nat)) : Int) = _; omega], rfl⟩)
    ·exact h_tz s hs neg us m dot dig nd ndm dp tr pos x w _ Q c hp hcc hpl i1 i2 i3 i4 i6 im c95 c46 d1 d2 c48 hnd ck (fun x' => ⟨k - 1, by omega, pos + 1, { us := us, m := m, dot := dot, dig := true, nd := nd + 1, ndm := ndm, dp := dp, tr := tr || c != 48 }, x', by rw [ls_length]; omega, hL.next hc (by unfold stepR; rw [if_neg c95, if_neg c46, if_pos hD, if_neg cz]; exact if_neg ck), by rw [c48]; simp, rfl⟩)
   ·have cz : ¬ (c = 48 /\ nd = 0) := fun h => c48 h.1
    by_cases ck : ndm < 16
    ·exact h_dn s hs neg us m dot dig nd ndm dp tr pos x w _ Q c hp hcc hpl i1 i2 i3 i4 i6 im c95 c46 d1 d2 c48 ck (by have := m_hex i5 ck; omega) (fun x' => ⟨k - 1, by omega, pos + 1, { us := us, m := m * bas true + (c.toNat - 48), dot := dot, dig := true, nd := nd + 1, ndm := ndm + 1, dp := dp, tr := tr }, x', by rw [ls_length]; omega, hL.next hc (by unfold stepR; rw [if_neg c95, if_neg c46, if_pos hD, if_neg cz]; exact if_pos ck), by rw [hcc]; show FH s neg _ (((m * bas true + (c.toNat - 48) : Nat)) : Int) _ _ _ _ _ _ _ _ = FH s neg _ _ _ _ _ _ _ _ _ _; rw [show (((m * bas true + (c.toNat - 48) : Nat)) : Int) = (m : Int) * 16 + ((c.toNat : Int) - 48) from by show (((m * 16 + (c.toNat - 48) : Nat)) : Int) = _; omega], rfl⟩)
    ·exact h_tn s hs neg us m dot dig nd ndm dp tr pos x w _ Q c hp hcc hpl i1 i2 i3 i4 i6 im c95 c46 d1 d2 c48 ck (fun x' => ⟨k - 1, by omega, pos + 1, { us := us, m := m, dot := dot, dig := true, nd := nd + 1, ndm := ndm, dp := dp, tr := tr || c != 48 }, x', by rw [ls_length]; omega, hL.next hc (by unfold stepR; rw [if_neg c95, if_neg c46, if_pos hD, if_neg cz]; exact if_neg ck), by rw [bne_iff_ne.2 c48]; simp, rfl⟩)
  have hD : ¬ isD c = true := by rw [isD_iff]; exact cD
  by_cases d1 : 48 <= c.toNat
  ·have d2 : 57 < c.toNat := by omega
   by_cases g97 : 97 <= lo c
   ·by_cases g102 : lo c <= 102
    ·by_cases ck : ndm < 16
     ·exact h_let0 s hs neg us m dot dig nd ndm dp tr pos x w _ Q c hp hcc hpl i1 i2 i3 i4 i6 im c95 c46 d1 d2 g97 g102 ck (by have := m_hex i5 ck; omega) (fun x' => ⟨k - 1, by omega, pos + 1, { us := us, m := m * 16 + (lo c - 87), dot := dot, dig := true, nd := nd + 1, ndm := ndm + 1, dp := dp, tr := tr }, x', by rw [ls_length]; omega, hL.next hc (by unfold stepR; rw [if_neg c95, if_neg c46, if_neg hD, if_pos ⟨rfl, g97, g102⟩]; exact if_pos ck), by show FH s neg _ (((m * 16 + (lo c - 87) : Nat)) : Int) _ _ _ _ _ _ _ _ = FH s neg _ _ _ _ _ _ _ _ _ _; rw [show (((m * 16 + (lo c - 87) : Nat)) : Int) = (m : Int) * 16 + ((lo c : Int) - 87) from by omega], rfl⟩)
     ·exact h_tlet0 s hs neg us m dot dig nd ndm dp tr pos x w _ Q c hp hcc hpl i1 i2 i3 i4 i6 im c95 c46 d1 d2 g97 g102 ck (fun x' => ⟨k - 1, by omega, pos + 1, { us := us, m := m, dot := dot, dig := true, nd := nd + 1, ndm := ndm, dp := dp, tr := true }, x', by rw [ls_length]; omega, hL.next hc (by unfold stepR; rw [if_neg c95, if_neg c46, if_neg hD, if_pos ⟨rfl, g97, g102⟩]; exact if_neg ck), rfl, rfl⟩)
    ·exact h_stopb0 s hs neg us m dot dig nd ndm dp tr pos x w _ Q c hp hcc hpl i1 i2 i3 i4 i6 im c95 c46 d1 d2 g97 (by omega) (fun x' => hexit _ _ x' (hL.stop hc (by unfold stepR; rw [if_neg c95, if_neg c46, if_neg hD, if_neg (by rintro ⟨_, h1, h2⟩; omega)])))
   ·exact h_stopa0 s hs neg us m dot dig nd ndm dp tr pos x w _ Q c hp hcc hpl i1 i2 i3 i4 i6 im c95 c46 d1 d2 (by omega) (fun x' => hexit _ _ x' (hL.stop hc (by unfold stepR; rw [if_neg c95, if_neg c46, if_neg hD, if_neg (by rintro ⟨_, h1, h2⟩; omega)])))
  ·have d1 : c.toNat < 48 := by omega
   by_cases g97 : 97 <= lo c
   ·by_cases g102 : lo c <= 102
    ·by_cases ck : ndm < 16
     ·exact h_let1 s hs neg us m dot dig nd ndm dp tr pos x w _ Q c hp hcc hpl i1 i2 i3 i4 i6 im c95 c46 d1 g97 g102 ck (by have := m_hex i5 ck; omega) (fun x' => ⟨k - 1, by omega, pos + 1, { us := us, m := m * 16 + (lo c - 87), dot := dot, dig := true, nd := nd + 1, ndm := ndm + 1, dp := dp, tr := tr }, x', by rw [ls_length]; omega, hL.next hc (by unfold stepR; rw [if_neg c95, if_neg c46, if_neg hD, if_pos ⟨rfl, g97, g102⟩]; exact if_pos ck), by show FH s neg _ (((m * 16 + (lo c - 87) : Nat)) : Int) _ _ _ _ _ _ _ _ = FH s neg _ _ _ _ _ _ _ _ _ _; rw [show (((m * 16 + (lo c - 87) : Nat)) : Int) = (m : Int) * 16 + ((lo c : Int) - 87) from by omega], rfl⟩)
     ·exact h_tlet1 s hs neg us m dot dig nd ndm dp tr pos x w _ Q c hp hcc hpl i1 i2 i3 i4 i6 im c95 c46 d1 g97 g102 ck (fun x' => ⟨k - 1, by omega, pos + 1, { us := us, m := m, dot := dot, dig := true, nd := nd + 1, ndm := ndm, dp := dp, tr := true }, x', by rw [ls_length]; omega, hL.next hc (by unfold stepR; rw [if_neg c95, if_neg c46, if_neg hD, if_pos ⟨rfl, g97, g102⟩]; exact if_neg ck), rfl, rfl⟩)
    ·exact h_stopb1 s hs neg us m dot dig nd ndm dp tr pos x w _ Q c hp hcc hpl i1 i2 i3 i4 i6 im c95 c46 d1 g97 (by omega) (fun x' => hexit _ _ x' (hL.stop hc (by unfold stepR; rw [if_neg c95, if_neg c46, if_neg hD, if_neg (by rintro ⟨_, h1, h2⟩; omega)])))
   ·exact h_stopa1 s hs neg us m dot dig nd ndm dp tr pos x w _ Q c hp hcc hpl i1 i2 i3 i4 i6 im c95 c46 d1 (by omega) (fun x' => hexit _ _ x' (hL.stop hc (by unfold stepR; rw [if_neg c95, if_neg c46, if_neg hD, if_neg (by rintro ⟨_, h1, h2⟩; omega)])))
 ·exact h_fin s hs neg us m dot dig nd ndm dp tr pos x w _ Q 0 hp hpl i1 i2 i3 i4 i6 im (fun x' => hexit _ _ x' (hL.fin (by rw [ls_length]; omega)))
end Go.Proofs.YtdfolbmoohcblaaGreatDoor
