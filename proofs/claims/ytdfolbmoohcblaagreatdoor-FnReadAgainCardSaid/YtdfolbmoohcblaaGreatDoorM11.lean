/-
For FnReadAgain, part 11: W5d.
-/
import Derived.Test.YtdfolbmoohcblaaGreatDoorM10
set_option linter.all false
namespace Go.Proofs.YtdfolbmoohcblaaGreatDoor
set_option maxHeartbeats 4000000
set_option maxRecDepth 100000
open Go.RowKit
def firstLoop : Code -> Option Code
 | .loop c => some c
 | .seq a b => match firstLoop a with
  | some c => some c
  | none => firstLoop b
 | .block _ c => firstLoop c
 | .scope c => firstLoop c
 | .cond _ a b => match firstLoop a with
  | some c => some c
  | none => firstLoop b
 | _ => none
noncomputable def bodyR : Code := (Tryz.f134.body.bind firstLoop).getD .skip
theorem of_x {K : Act -> World -> Prop} {w : World} (F : (Nat -> Value) -> Act) (hK : ∀ x', K (F x') w) (L : List Value) (h : F (fun k => L.getD k undef) = ⟨L.toArray, []⟩) : K ⟨L.toArray, []⟩ w := h ▸ hK _
theorem of_xq {Q : Exit -> Act -> World -> Prop} {e : Exit} {w : World} (F : (Nat -> Value) -> Act) (hK : ∀ x', Q e (F x') w) (L : List Value) (h : F (fun k => L.getD k undef) = ⟨L.toArray, []⟩) : Q e ⟨L.toArray, []⟩ w := h ▸ hK _
def FD (s : ByteArray) (neg us : Bool) (m : Int) (dot dig : Bool) (nd ndm : Nat) (dp : Int) (tr : Bool) (pos : Nat) (x : Nat -> Value) : Act := ⟨#[.string s, x 1, .int .u64 m, .int .i64 0, .bool neg, .bool tr, .bool false, .int .i64 pos, .bool false, .bool us, .int .u64 10, .int .i64 19, .int .u8 101, .bool dot, .bool dig, .int .i64 nd, .int .i64 ndm, .int .i64 dp, x 18, x 19, x 20, x 21, x 22, x 23, x 24, x 25, x 26, x 27, x 28, x 29, x 30, x 31, x 32, x 33, x 34, x 35, x 36, x 37, x 38, x 39, x 40, x 41, x 42, x 43, x 44, x 45, x 46, x 47, x 48, x 49, x 50, x 51, x 52, x 53, x 54, x 55, x 56, x 57, x 58, x 59, x 60, x 61, x 62, x 63, x 64, x 65, x 66, x 67, x 68, x 69, x 70, x 71, x 72, x 73, x 74, x 75, x 76, x 77, x 78, x 79, x 80, x 81, x 82, x 83, x 84, x 85, x 86, x 87, x 88, x 89, x 90, x 91, x 92, x 93, x 94, x 95, x 96, x 97, x 98, x 99, x 100, x 101, x 102, x 103, x 104, x 105, x 106, x 107, x 108, x 109, x 110, x 111, x 112, x 113, x 114, x 115, x 116, x 117, x 118, x 119, x 120, x 121, x 122, x 123, x 124, x 125, x 126, x 127, x 128, x 129, x 130, x 131, x 132, x 133, x 134, x 135, x 136, x 137, x 138, x 139, x 140, x 141, x 142, x 143, x 144, x 145, x 146, x 147, x 148, x 149, x 150, x 151, x 152, x 153, x 154, x 155, x 156, x 157, x 158, x 159, x 160, x 161, x 162, x 163, x 164, x 165, x 166, x 167, x 168, x 169, x 170, x 171, x 172, x 173, x 174, x 175, x 176, x 177, x 178, x 179, x 180, x 181, x 182, x 183, x 184, x 185, x 186, x 187, x 188, x 189, x 190, x 191, x 192, x 193, x 194, x 195, x 196, x 197, x 198, x 199, x 200, x 201, x 202, x 203, x 204, x 205, x 206, x 207, x 208, x 209, x 210, x 211, x 212, x 213, x 214, x 215, x 216, x 217, x 218, x 219, x 220, x 221, x 222, x 223, x 224, x 225, x 226, x 227, x 228, x 229, x 230, x 231, x 232, x 233, x 234, x 235, x 236, x 237, x 238, x 239, x 240, x 241, x 242, x 243, x 244, x 245, x 246, x 247, x 248, x 249, x 250, x 251, x 252], []⟩
def FH (s : ByteArray) (neg us : Bool) (m : Int) (dot dig : Bool) (nd ndm : Nat) (dp : Int) (tr : Bool) (pos : Nat) (x : Nat -> Value) : Act := ⟨#[.string s, x 1, .int .u64 m, .int .i64 0, .bool neg, .bool tr, .bool true, .int .i64 pos, .bool false, .bool us, .int .u64 16, .int .i64 16, .int .u8 112, .bool dot, .bool dig, .int .i64 nd, .int .i64 ndm, .int .i64 dp, x 18, x 19, x 20, x 21, x 22, x 23, x 24, x 25, x 26, x 27, x 28, x 29, x 30, x 31, x 32, x 33, x 34, x 35, x 36, x 37, x 38, x 39, x 40, x 41, x 42, x 43, x 44, x 45, x 46, x 47, x 48, x 49, x 50, x 51, x 52, x 53, x 54, x 55, x 56, x 57, x 58, x 59, x 60, x 61, x 62, x 63, x 64, x 65, x 66, x 67, x 68, x 69, x 70, x 71, x 72, x 73, x 74, x 75, x 76, x 77, x 78, x 79, x 80, x 81, x 82, x 83, x 84, x 85, x 86, x 87, x 88, x 89, x 90, x 91, x 92, x 93, x 94, x 95, x 96, x 97, x 98, x 99, x 100, x 101, x 102, x 103, x 104, x 105, x 106, x 107, x 108, x 109, x 110, x 111, x 112, x 113, x 114, x 115, x 116, x 117, x 118, x 119, x 120, x 121, x 122, x 123, x 124, x 125, x 126, x 127, x 128, x 129, x 130, x 131, x 132, x 133, x 134, x 135, x 136, x 137, x 138, x 139, x 140, x 141, x 142, x 143, x 144, x 145, x 146, x 147, x 148, x 149, x 150, x 151, x 152, x 153, x 154, x 155, x 156, x 157, x 158, x 159, x 160, x 161, x 162, x 163, x 164, x 165, x 166, x 167, x 168, x 169, x 170, x 171, x 172, x 173, x 174, x 175, x 176, x 177, x 178, x 179, x 180, x 181, x 182, x 183, x 184, x 185, x 186, x 187, x 188, x 189, x 190, x 191, x 192, x 193, x 194, x 195, x 196, x 197, x 198, x 199, x 200, x 201, x 202, x 203, x 204, x 205, x 206, x 207, x 208, x 209, x 210, x 211, x 212, x 213, x 214, x 215, x 216, x 217, x 218, x 219, x 220, x 221, x 222, x 223, x 224, x 225, x 226, x 227, x 228, x 229, x 230, x 231, x 232, x 233, x 234, x 235, x 236, x 237, x 238, x 239, x 240, x 241, x 242, x 243, x 244, x 245, x 246, x 247, x 248, x 249, x 250, x 251, x 252], []⟩
theorem d_under (s : ByteArray) (hs : s.size <= 1099511627776) (neg us : Bool) (m : Int) (dot dig : Bool) (nd ndm : Nat) (dp : Int) (tr : Bool) (pos : Nat) (x : Nat -> Value) (w : World) (K : Act -> World -> Prop) (Q : Exit -> Act -> World -> Prop) (c : UInt8) (hp : pos < s.size) (hcc : s[pos] = c)
  (hpl : pos <= s.size) (i1 : nd <= pos) (i2 : -(pos : Int) <= dp) (i3 : dp <= pos) (i4 : ndm <= 19) (i6 : ndm <= nd) (im : 0 <= m) (c95 : c = 95)
  (hK : ∀ x', K (FD s neg (true) (m) (dot) (dig) (nd) (ndm) (dp) (tr) (pos + 1) x') w) :
  Code.wp Tryz.prog bodyR (Exit.then K Q) (FD s neg us m dot dig nd ndm dp tr pos x) w := by
 conv => arg 2; whnf
 have b95 : ((s[pos].toNat : Int) == 95) = true := by rw [hcc]; exact int_eq' (n := 95) (by decide) c95
 clear hcc c95
 unfold FD
 go_wp2_with fail
 all_goals (exact of_x (FD s neg (true) (m) (dot) (dig) (nd) (ndm) (dp) (tr) (pos + 1)) hK _ rfl)
theorem d_dot (s : ByteArray) (hs : s.size <= 1099511627776) (neg us : Bool) (m : Int) (dot dig : Bool) (nd ndm : Nat) (dp : Int) (tr : Bool) (pos : Nat) (x : Nat -> Value) (w : World) (K : Act -> World -> Prop) (Q : Exit -> Act -> World -> Prop) (c : UInt8) (hp : pos < s.size) (hcc : s[pos] = c)
  (hpl : pos <= s.size) (i1 : nd <= pos) (i2 : -(pos : Int) <= dp) (i3 : dp <= pos) (i4 : ndm <= 19) (i6 : ndm <= nd) (im : 0 <= m) (c95 : c ≠ 95) (c46 : c = 46) (hdot : dot = false)
  (hK : ∀ x', K (FD s neg (us) (m) (true) (dig) (nd) (ndm) ((nd : Int)) (tr) (pos + 1) x') w) :
  Code.wp Tryz.prog bodyR (Exit.then K Q) (FD s neg us m dot dig nd ndm dp tr pos x) w := by
 conv => arg 2; whnf
 have b95 : ((s[pos].toNat : Int) == 95) = false := by rw [hcc]; exact int_ne' (n := 95) (by decide) c95
 have b46 : ((s[pos].toNat : Int) == 46) = true := by rw [hcc]; exact int_eq' (n := 46) (by decide) c46
 subst hdot
 clear hcc c95 c46
 unfold FD
 go_wp2_with fail
 all_goals (exact of_x (FD s neg (us) (m) (true) (dig) (nd) (ndm) ((nd : Int)) (tr) (pos + 1)) hK _ rfl)
theorem d_dot2 (s : ByteArray) (hs : s.size <= 1099511627776) (neg us : Bool) (m : Int) (dot dig : Bool) (nd ndm : Nat) (dp : Int) (tr : Bool) (pos : Nat) (x : Nat -> Value) (w : World) (K : Act -> World -> Prop) (Q : Exit -> Act -> World -> Prop) (c : UInt8) (hp : pos < s.size) (hcc : s[pos] = c)
  (hpl : pos <= s.size) (i1 : nd <= pos) (i2 : -(pos : Int) <= dp) (i3 : dp <= pos) (i4 : ndm <= 19) (i6 : ndm <= nd) (im : 0 <= m) (c95 : c ≠ 95) (c46 : c = 46) (hdot : dot = true)
  (hQ : ∀ x', Q (.exit 1) (FD s neg us m dot dig nd ndm dp tr pos x') w) :
  Code.wp Tryz.prog bodyR (Exit.then K Q) (FD s neg us m dot dig nd ndm dp tr pos x) w := by
 conv => arg 2; whnf
 have b95 : ((s[pos].toNat : Int) == 95) = false := by rw [hcc]; exact int_ne' (n := 95) (by decide) c95
 have b46 : ((s[pos].toNat : Int) == 46) = true := by rw [hcc]; exact int_eq' (n := 46) (by decide) c46
 subst hdot
 clear hcc c95 c46
 unfold FD
 go_wp2_with fail
 all_goals (exact of_xq (FD s neg us m true dig nd ndm dp tr pos) hQ _ rfl)
theorem d_zero (s : ByteArray) (hs : s.size <= 1099511627776) (neg us : Bool) (m : Int) (dot dig : Bool) (nd ndm : Nat) (dp : Int) (tr : Bool) (pos : Nat) (x : Nat -> Value) (w : World) (K : Act -> World -> Prop) (Q : Exit -> Act -> World -> Prop) (c : UInt8) (hp : pos < s.size) (hcc : s[pos] = c)
  (hpl : pos <= s.size) (i1 : nd <= pos) (i2 : -(pos : Int) <= dp) (i3 : dp <= pos) (i4 : ndm <= 19) (i6 : ndm <= nd) (im : 0 <= m) (c95 : c ≠ 95) (c46 : c ≠ 46) (d1 : 48 <= c.toNat) (d2 : c.toNat <= 57) (c48 : c = 48) (hnd : nd = 0)
  (hK : ∀ x', K (FD s neg (us) (m) (dot) (true) (nd) (ndm) (dp - 1) (tr) (pos + 1) x') w) :
  Code.wp Tryz.prog bodyR (Exit.then K Q) (FD s neg us m dot dig nd ndm dp tr pos x) w := by
 conv => arg 2; whnf
 have b95 : ((s[pos].toNat : Int) == 95) = false := by rw [hcc]; exact int_ne' (n := 95) (by decide) c95
 have b46 : ((s[pos].toNat : Int) == 46) = false := by rw [hcc]; exact int_ne' (n := 46) (by decide) c46
 have hcn : (s[pos].toNat : Int) = c.toNat := by rw [hcc]
 have g1 : 48 <= (s[pos].toNat : Int) := by omega
 have g2 : (s[pos].toNat : Int) <= 57 := by omega
 have b48 : ((s[pos].toNat : Int) == 48) = true := by rw [hcc]; exact int_eq' (n := 48) (by decide) c48
 have b48n : ((s[pos].toNat : Int) != 48) = false := by rw [bne, b48]; rfl
 have bnd : ((nd : Int) == 0) = true := by rw [beq_iff_eq]; omega
 clear hcc c95 c46 c48 hcn hnd
 unfold FD
 go_wp2_with fail
 all_goals (exact of_x (FD s neg (us) (m) (dot) (true) (nd) (ndm) (dp - 1) (tr) (pos + 1)) hK _ rfl)
theorem d_dz (s : ByteArray) (hs : s.size <= 1099511627776) (neg us : Bool) (m : Int) (dot dig : Bool) (nd ndm : Nat) (dp : Int) (tr : Bool) (pos : Nat) (x : Nat -> Value) (w : World) (K : Act -> World -> Prop) (Q : Exit -> Act -> World -> Prop) (c : UInt8) (hp : pos < s.size) (hcc : s[pos] = c)
  (hpl : pos <= s.size) (i1 : nd <= pos) (i2 : -(pos : Int) <= dp) (i3 : dp <= pos) (i4 : ndm <= 19) (i6 : ndm <= nd) (im : 0 <= m) (c95 : c ≠ 95) (c46 : c ≠ 46) (d1 : 48 <= c.toNat) (d2 : c.toNat <= 57) (c48 : c = 48) (hnd : nd ≠ 0) (ck : ndm < 19) (hm : m < 1000000000000000000)
  (hK : ∀ x', K (FD s neg (us) (m * 10 + (s[pos].toNat - 48)) (dot) (true) (nd + 1) (ndm + 1) (dp) (tr) (pos + 1) x') w) :
  Code.wp Tryz.prog bodyR (Exit.then K Q) (FD s neg us m dot dig nd ndm dp tr pos x) w := by
 conv => arg 2; whnf
 have b95 : ((s[pos].toNat : Int) == 95) = false := by rw [hcc]; exact int_ne' (n := 95) (by decide) c95
 have b46 : ((s[pos].toNat : Int) == 46) = false := by rw [hcc]; exact int_ne' (n := 46) (by decide) c46
 have hcn : (s[pos].toNat : Int) = c.toNat := by rw [hcc]
 have g1 : 48 <= (s[pos].toNat : Int) := by omega
 have g2 : (s[pos].toNat : Int) <= 57 := by omega
 have b48 : ((s[pos].toNat : Int) == 48) = true := by rw [hcc]; exact int_eq' (n := 48) (by decide) c48
 have b48n : ((s[pos].toNat : Int) != 48) = false := by rw [bne, b48]; rfl
 have bnd : ((nd : Int) == 0) = false := by rw [beq_eq_false_iff_ne]; omega
 clear hcc c95 c46 c48 hcn
 unfold FD
 go_wp2_with fail
 all_goals (exact of_x (FD s neg (us) (m * 10 + (s[pos].toNat - 48)) (dot) (true) (nd + 1) (ndm + 1) (dp) (tr) (pos + 1)) hK _ rfl)
theorem d_dn (s : ByteArray) (hs : s.size <= 1099511627776) (neg us : Bool) (m : Int) (dot dig : Bool) (nd ndm : Nat) (dp : Int) (tr : Bool) (pos : Nat) (x : Nat -> Value) (w : World) (K : Act -> World -> Prop) (Q : Exit -> Act -> World -> Prop) (c : UInt8) (hp : pos < s.size) (hcc : s[pos] = c)
  (hpl : pos <= s.size) (i1 : nd <= pos) (i2 : -(pos : Int) <= dp) (i3 : dp <= pos) (i4 : ndm <= 19) (i6 : ndm <= nd) (im : 0 <= m) (c95 : c ≠ 95) (c46 : c ≠ 46) (d1 : 48 <= c.toNat) (d2 : c.toNat <= 57) (c48 : c ≠ 48) (ck : ndm < 19) (hm : m < 1000000000000000000)
  (hK : ∀ x', K (FD s neg (us) (m * 10 + (s[pos].toNat - 48)) (dot) (true) (nd + 1) (ndm + 1) (dp) (tr) (pos + 1) x') w) :
  Code.wp Tryz.prog bodyR (Exit.then K Q) (FD s neg us m dot dig nd ndm dp tr pos x) w := by
 conv => arg 2; whnf
 have b95 : ((s[pos].toNat : Int) == 95) = false := by rw [hcc]; exact int_ne' (n := 95) (by decide) c95
 have b46 : ((s[pos].toNat : Int) == 46) = false := by rw [hcc]; exact int_ne' (n := 46) (by decide) c46
 have hcn : (s[pos].toNat : Int) = c.toNat := by rw [hcc]
 have g1 : 48 <= (s[pos].toNat : Int) := by omega
 have g2 : (s[pos].toNat : Int) <= 57 := by omega
 have b48 : ((s[pos].toNat : Int) == 48) = false := by rw [hcc]; exact int_ne' (n := 48) (by decide) c48
 have b48n : ((s[pos].toNat : Int) != 48) = true := by rw [bne, b48]; rfl
 clear hcc c95 c46 c48 hcn
 unfold FD
 go_wp2_with fail
 all_goals (exact of_x (FD s neg (us) (m * 10 + (s[pos].toNat - 48)) (dot) (true) (nd + 1) (ndm + 1) (dp) (tr) (pos + 1)) hK _ rfl)
theorem d_tz (s : ByteArray) (hs : s.size <= 1099511627776) (neg us : Bool) (m : Int) (dot dig : Bool) (nd ndm : Nat) (dp : Int) (tr : Bool) (pos : Nat) (x : Nat -> Value) (w : World) (K : Act -> World -> Prop) (Q : Exit -> Act -> World -> Prop) (c : UInt8) (hp : pos < s.size) (hcc : s[pos] = c)
  (hpl : pos <= s.size) (i1 : nd <= pos) (i2 : -(pos : Int) <= dp) (i3 : dp <= pos) (i4 : ndm <= 19) (i6 : ndm <= nd) (im : 0 <= m) (c95 : c ≠ 95) (c46 : c ≠ 46) (d1 : 48 <= c.toNat) (d2 : c.toNat <= 57) (c48 : c = 48) (hnd : nd ≠ 0) (ck : ¬ ndm < 19)
  (hK : ∀ x', K (FD s neg (us) (m) (dot) (true) (nd + 1) (ndm) (dp) (tr) (pos + 1) x') w) :
  Code.wp Tryz.prog bodyR (Exit.then K Q) (FD s neg us m dot dig nd ndm dp tr pos x) w := by
 conv => arg 2; whnf
 have b95 : ((s[pos].toNat : Int) == 95) = false := by rw [hcc]; exact int_ne' (n := 95) (by decide) c95
 have b46 : ((s[pos].toNat : Int) == 46) = false := by rw [hcc]; exact int_ne' (n := 46) (by decide) c46
 have hcn : (s[pos].toNat : Int) = c.toNat := by rw [hcc]
 have g1 : 48 <= (s[pos].toNat : Int) := by omega
 have g2 : (s[pos].toNat : Int) <= 57 := by omega
 have b48 : ((s[pos].toNat : Int) == 48) = true := by rw [hcc]; exact int_eq' (n := 48) (by decide) c48
 have b48n : ((s[pos].toNat : Int) != 48) = false := by rw [bne, b48]; rfl
 have bnd : ((nd : Int) == 0) = false := by rw [beq_eq_false_iff_ne]; omega
 clear hcc c95 c46 c48 hcn
 unfold FD
 go_wp2_with fail
 all_goals (exact of_x (FD s neg (us) (m) (dot) (true) (nd + 1) (ndm) (dp) (tr) (pos + 1)) hK _ rfl)
theorem d_tn (s : ByteArray) (hs : s.size <= 1099511627776) (neg us : Bool) (m : Int) (dot dig : Bool) (nd ndm : Nat) (dp : Int) (tr : Bool) (pos : Nat) (x : Nat -> Value) (w : World) (K : Act -> World -> Prop) (Q : Exit -> Act -> World -> Prop) (c : UInt8) (hp : pos < s.size) (hcc : s[pos] = c)
  (hpl : pos <= s.size) (i1 : nd <= pos) (i2 : -(pos : Int) <= dp) (i3 : dp <= pos) (i4 : ndm <= 19) (i6 : ndm <= nd) (im : 0 <= m) (c95 : c ≠ 95) (c46 : c ≠ 46) (d1 : 48 <= c.toNat) (d2 : c.toNat <= 57) (c48 : c ≠ 48) (ck : ¬ ndm < 19)
  (hK : ∀ x', K (FD s neg (us) (m) (dot) (true) (nd + 1) (ndm) (dp) (true) (pos + 1) x') w) :
  Code.wp Tryz.prog bodyR (Exit.then K Q) (FD s neg us m dot dig nd ndm dp tr pos x) w := by
 conv => arg 2; whnf
 have b95 : ((s[pos].toNat : Int) == 95) = false := by rw [hcc]; exact int_ne' (n := 95) (by decide) c95
 have b46 : ((s[pos].toNat : Int) == 46) = false := by rw [hcc]; exact int_ne' (n := 46) (by decide) c46
 have hcn : (s[pos].toNat : Int) = c.toNat := by rw [hcc]
 have g1 : 48 <= (s[pos].toNat : Int) := by omega
 have g2 : (s[pos].toNat : Int) <= 57 := by omega
 have b48 : ((s[pos].toNat : Int) == 48) = false := by rw [hcc]; exact int_ne' (n := 48) (by decide) c48
 have b48n : ((s[pos].toNat : Int) != 48) = true := by rw [bne, b48]; rfl
 clear hcc c95 c46 c48 hcn
 unfold FD
 go_wp2_with fail
 all_goals (exact of_x (FD s neg (us) (m) (dot) (true) (nd + 1) (ndm) (dp) (true) (pos + 1)) hK _ rfl)
theorem d_stop0 (s : ByteArray) (hs : s.size <= 1099511627776) (neg us : Bool) (m : Int) (dot dig : Bool) (nd ndm : Nat) (dp : Int) (tr : Bool) (pos : Nat) (x : Nat -> Value) (w : World) (K : Act -> World -> Prop) (Q : Exit -> Act -> World -> Prop) (c : UInt8) (hp : pos < s.size) (hcc : s[pos] = c)
  (hpl : pos <= s.size) (i1 : nd <= pos) (i2 : -(pos : Int) <= dp) (i3 : dp <= pos) (i4 : ndm <= 19) (i6 : ndm <= nd) (im : 0 <= m) (c95 : c ≠ 95) (c46 : c ≠ 46) (d1 : 48 <= c.toNat) (d2 : 57 < c.toNat)
  (hQ : ∀ x', Q (.exit 1) (FD s neg us m dot dig nd ndm dp tr pos x') w) :
  Code.wp Tryz.prog bodyR (Exit.then K Q) (FD s neg us m dot dig nd ndm dp tr pos x) w := by
 conv => arg 2; whnf
 have b95 : ((s[pos].toNat : Int) == 95) = false := by rw [hcc]; exact int_ne' (n := 95) (by decide) c95
 have b46 : ((s[pos].toNat : Int) == 46) = false := by rw [hcc]; exact int_ne' (n := 46) (by decide) c46
 have hcn : (s[pos].toNat : Int) = c.toNat := by rw [hcc]
 have g1 : 48 <= (s[pos].toNat : Int) := by omega
 have g2 : ¬ (s[pos].toNat : Int) <= 57 := by omega
 clear hcc c95 c46 hcn
 unfold FD
 go_wp2_with fail
 all_goals (exact of_xq (FD s neg us m dot dig nd ndm dp tr pos) hQ _ rfl)
theorem d_stop1 (s : ByteArray) (hs : s.size <= 1099511627776) (neg us : Bool) (m : Int) (dot dig : Bool) (nd ndm : Nat) (dp : Int) (tr : Bool) (pos : Nat) (x : Nat -> Value) (w : World) (K : Act -> World -> Prop) (Q : Exit -> Act -> World -> Prop) (c : UInt8) (hp : pos < s.size) (hcc : s[pos] = c)
  (hpl : pos <= s.size) (i1 : nd <= pos) (i2 : -(pos : Int) <= dp) (i3 : dp <= pos) (i4 : ndm <= 19) (i6 : ndm <= nd) (im : 0 <= m) (c95 : c ≠ 95) (c46 : c ≠ 46) (d1 : c.toNat < 48)
  (hQ : ∀ x', Q (.exit 1) (FD s neg us m dot dig nd ndm dp tr pos x') w) :
  Code.wp Tryz.prog bodyR (Exit.then K Q) (FD s neg us m dot dig nd ndm dp tr pos x) w := by
 conv => arg 2; whnf
 have b95 : ((s[pos].toNat : Int) == 95) = false := by rw [hcc]; exact int_ne' (n := 95) (by decide) c95
 have b46 : ((s[pos].toNat : Int) == 46) = false := by rw [hcc]; exact int_ne' (n := 46) (by decide) c46
 have hcn : (s[pos].toNat : Int) = c.toNat := by rw [hcc]
 have g1 : ¬ 48 <= (s[pos].toNat : Int) := by omega
 clear hcc c95 c46 hcn
 unfold FD
 go_wp2_with fail
 all_goals (exact of_xq (FD s neg us m dot dig nd ndm dp tr pos) hQ _ rfl)
theorem d_fin (s : ByteArray) (hs : s.size <= 1099511627776) (neg us : Bool) (m : Int) (dot dig : Bool) (nd ndm : Nat) (dp : Int) (tr : Bool) (pos : Nat) (x : Nat -> Value) (w : World) (K : Act -> World -> Prop) (Q : Exit -> Act -> World -> Prop) (c : UInt8) (hp : ¬ pos < s.size)
  (hpl : pos <= s.size) (i1 : nd <= pos) (i2 : -(pos : Int) <= dp) (i3 : dp <= pos) (i4 : ndm <= 19) (i6 : ndm <= nd) (im : 0 <= m)
  (hQ : ∀ x', Q (.exit 1) (FD s neg us m dot dig nd ndm dp tr pos x') w) :
  Code.wp Tryz.prog bodyR (Exit.then K Q) (FD s neg us m dot dig nd ndm dp tr pos x) w := by
 conv => arg 2; whnf
 unfold FD
 go_wp2_with fail
 all_goals (exact of_xq (FD s neg us m dot dig nd ndm dp tr pos) hQ _ rfl)
theorem low2 {s : ByteArray} {pos : Nat} {c : UInt8} {hp : pos < s.size} (hcc : s[pos] = c) : ∀ w, Calls Tryz.prog 114 #[.int .u8 s[pos].toNat] w fun e w' => e = .returned (.int .u8 (lo c)) /\ w = w' := by rw [hcc]; exact fun w => lower_any c w
end Go.Proofs.YtdfolbmoohcblaaGreatDoor
