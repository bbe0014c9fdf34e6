/-
For FnReadAgain, part 19: W6a W6b D1 W6c.
-/
import Derived.Test.YtdfolbmoohcblaaGreatDoorM12
import Derived.LaidEqlPtr
import Derived.Lib.SmallJoins
set_option linter.all false
namespace Go.Proofs.YtdfolbmoohcblaaGreatDoor
set_option maxHeartbeats 4000000
set_option maxRecDepth 100000
open Go.RowKit
def Valid (x : Nat) : Prop := NN x /\ x < 18446744073709551616
theorem bits_mask52 (a : Nat) (ha : a < 18446744073709551616) : bits .and .u64 (a : Int) 4503599627370495 = ((a % 4503599627370496 : Nat) : Int) := by
 rw [show (4503599627370495 : Int) = ((4503599627370495 : Nat) : Int) from rfl, bits_and_u64 a _ ha (by omega), show (4503599627370495 : Nat) = 2 ^ 52 - 1 from rfl, Nat.and_two_pow_sub_one_eq_mod]
theorem bits_and3 (a : Nat) (ha : a < 18446744073709551616) : bits .and .u64 (a : Int) 3 = ((a % 4 : Nat) : Int) := by
 rw [show (3 : Int) = ((3 : Nat) : Int) from rfl, bits_and_u64 a _ ha (by omega), show (3 : Nat) = 2 ^ 2 - 1 from rfl, Nat.and_two_pow_sub_one_eq_mod]
theorem bits_and2047 (s : Nat) (hs : s < 4096) : bits .and .i64 (s : Int) 2047 = ((s % 2048 : Nat) : Int) := by
 have key : (BitVec.ofInt 64 (s : Int) &&& BitVec.ofInt 64 (2047 : Int)).toNat = s % 2048 := by
  rw [BitVec.toNat_and, ofInt_nat64 s (by omega), show (2047 : Int) = ((2047 : Nat) : Int) from rfl, ofInt_nat64 2047 (by omega), show (2047 : Nat) = 2 ^ 11 - 1 from rfl, Nat.and_two_pow_sub_one_eq_mod]
 refine (congrArg (fun n : Nat => IntKind.i64.wrap (n : Int)) key).trans ?_
 exact IntWalk.i64_in _ (by constructor <;> omega)
def hv (m : Nat) : Nat := if m % 2 = 1 then m / 2 / 2 * 2 + 1 else m / 2
theorem hv_bits (m : Nat) (hm : m < 18446744073709551616) : bits .or .u64 (m / 2 : Int) (bits .and .u64 (m : Int) 1) = (hv m : Int) := by
 rw [bits_and1_u64 m hm, show ((m : Int) / 2) = ((m / 2 : Nat) : Int) from by omega]
 unfold hv
 rcases Nat.mod_two_eq_zero_or_one m with h0 | h0
 ·rw [h0, bits_or_u64 _ _ (by omega) (by omega), Nat.or_zero, if_neg (by omega)]
 ·rw [h0, show ((1 : Nat) : Int) = 1 from rfl, bits_or1_u64 _ (by omega), if_pos rfl]
theorem hv_lt (m : Nat) (h : 1 < m) : hv m < m := by unfold hv; split <;> omega
theorem hv_pos (m : Nat) (h : 1 < m) : 1 <= hv m := by unfold hv; split <;> omega
theorem hv_pow (m n : Nat) (h : m < 2 ^ (n + 1)) (hn : 1 <= n) : hv m < 2 ^ n := by
 obtain ⟨k, rfl⟩ : ∃ k, n = k + 1 := ⟨n - 1, by omega⟩
 rw [Nat.pow_succ] at h ⊢
 unfold hv; split <;> omega
theorem pow55 (m n : Nat) (h : m < 2 ^ n) (hm : 36028797018963968 <= m) : 56 <= n := by
 by_cases h56 : 56 <= n
 ·exact h56
 ·have : 2 ^ n <= 2 ^ 55 := Nat.pow_le_pow_right (by decide) (by omega)
  omega
theorem info213 : (Tryz.prog.info? 213).map (fun i => i.size) = some 3 := by kernel_rfl
theorem ptr_ne (w : World) (ha : ∃ ca ta, w.heap[14]? = some (.cells ca ta (0, 0))) (hb : ∃ ca ta, w.heap[13]? = some (.cells ca ta (0, 0))) : (binOp .eql 211 (.pointer (some ⟨14, 0, none⟩)) (.pointer (some ⟨13, 0, none⟩))).run Tryz.prog w = .ok (.bool false) w := by
 obtain ⟨ca, ta, ha⟩ := ha
 obtain ⟨cb, tb, hb⟩ := hb
 obtain ⟨j, hj, hs⟩ : ∃ j, Tryz.prog.info? 213 = some j /\ j.size ≠ 0 := by
  have h := info213
  cases hi : Tryz.prog.info? 213 with
  | none => rw [hi] at h; cases h
  | some j => rw [hi] at h; exact ⟨j, rfl, by simp at h; omega⟩
 exact run_eql_ptr_other (te := 213) w Tryz.underlying211 hj hs (by decide) ha hb
structure Inf64 (w : World) : Prop where
 c0 : w.cell? ⟨14, 0, none⟩ = some (.int .u64 52)
 c1 : w.cell? ⟨14, 1, none⟩ = some (.int .u64 11)
 c2 : w.cell? ⟨14, 2, none⟩ = some (.int .i64 (-1023))
 b14 : ∃ ca ta, w.heap[14]? = some (.cells ca ta (0, 0))
 b13 : ∃ ca ta, w.heap[13]? = some (.cells ca ta (0, 0))
theorem Inf64.below {w w' : World} (h : Inf64 w) (hb : Below w.heap.size w w') : Inf64 w' := by
 obtain ⟨ca, ta, ha⟩ := h.b14
 obtain ⟨cb, tb, hc⟩ := h.b13
 exact ⟨cell_later hb h.c0, cell_later hb h.c1, cell_later hb h.c2, ⟨ca, ta, by rw [hb.block 14 (Array.getElem?_eq_some_iff.1 ha).1]; exact ha⟩, ⟨cb, tb, by rw [hb.block 13 (Array.getElem?_eq_some_iff.1 hc).1]; exact hc⟩⟩
theorem valid_sg (neg : Bool) (r : Nat) (h : r <= 9218868437227405312) : Valid (sg neg + r) := by
 have e : sg neg + r = Ieee.double.word neg r := by
  have hs : Ieee.double.signWeight = 9223372036854775808 := by decide
  unfold sg Ieee.Format.word
  rw [hs]; cases neg <;> simp
 have hi : Ieee.double.infRung = 9218868437227405312 := by decide
 refine ⟨?_, by unfold sg; split <;> omega⟩
 rw [e]; exact word_nn _ _ (by omega)
theorem or_exp (f E : Nat) (hf : f < 4503599627370496) (hE : E < 2048) : bits .or .u64 (f : Int) ((E * 4503599627370496 : Nat) : Int) = ((E * 4503599627370496 + f : Nat) : Int) := by
 rw [bits_or_u64 _ _ (by omega) (by omega)]
 congr 1
 have h := Nat.two_pow_add_eq_or_of_lt (i := 52) hf E
 rw [Nat.or_comm, show E * 4503599627370496 = 2 ^ 52 * E from by rw [Nat.mul_comm]]
 exact h.symm
theorem or_top (r : Nat) (h : r < 9223372036854775808) : bits .or .u64 (r : Int) 9223372036854775808 = ((9223372036854775808 + r : Nat) : Int) := by
 rw [show (9223372036854775808 : Int) = ((9223372036854775808 : Nat) : Int) from rfl, bits_or_u64 _ _ (by omega) (by omega), Nat.or_comm]
 congr 1
 exact (Nat.two_pow_add_eq_or_of_lt (i := 63) h 1).symm
theorem exp_word (e : Int) (h1 : -1023 <= e) (h2 : e <= 1024) : IntKind.u64.wrap (IntKind.u64.wrap (bits BinOp.and IntKind.i64 (e + 1023) 2047) * 4503599627370496) = (((e + 1023).toNat * 4503599627370496 : Nat) : Int) := by
 have h := bits_and2047 (e + 1023).toNat (by omega)
 rw [show (((e + 1023).toNat : Nat) : Int) = e + 1023 from by omega, Nat.mod_eq_of_lt (by omega)] at h
 rw [h, IntWalk.u64_in (((e + 1023).toNat : Nat) : Int) (by constructor <;> omega), IntWalk.u64_in _ (by constructor <;> omega)]; omega
theorem retF {x y : Nat} {v : Value} (h : x = y) : Ending.returned (.tuple #[.float .f64 x, v]) = .returned (.tuple #[.float .f64 y, v]) := by rw [h]
def HexPost (w : World) (e' : Ending) (w' : World) : Prop :=
 (∃ n, w' = w.drewN n) /\ ∃ x, Valid x /\ (e' = .returned (.tuple #[.float .f64 x, .nilIface]) \/ e' = .returned (.tuple #[.float .f64 x, .iface 150 (.int .i64 1)]))
theorem atofHex_any (s : ByteArray) (m : Nat) (e : Int) (neg tr : Bool) (w : World) (hw : Inf64 w) (hm : m < 18446744073709551616) (h1 : -100000000000000 <= e) (h2 : e <= 100000000000000) :
  Calls Tryz.prog 135 #[.string s, .pointer (some ⟨14, 0, none⟩), .int .u64 m, .int .i64 e, .bool neg, .bool tr] w (HexPost w) := by
 obtain ⟨c0, c1, c2, b14, b13⟩ := hw
 have hpe := Lib.hid (fun n => ptr_ne (w.drewN n) b14 b13)
 clear b14 b13
 have hfb := fun n => run_frombits n
 go_enter Tryz.func135, Tryz.ntmps135
 go_wp2_with fail
 go_quiet (fail)
 go_upto_block 0 with fail
 go_cut [2, 3] from 42 (fun s2 s3 wx => ∃ (m : Nat) (e : Int), s2 = .int .u64 m /\ s3 = .int .i64 e /\ m < 18446744073709551616 /\ -400000000000000000 <= e /\ e <= 400000000000000 /\ wx = w.drewN nq)
 case first =>
  go_wp2_with fail
  go_loopg [2, 3] (18014398509481984 - m) (fun n v2 v3 wr => ∃ (m : Nat) (e : Int), v2 = .int .u64 m /\ v3 = .int .i64 e /\ m < 18446744073709551616 /\ -118014398509481984 <= e - n /\ e <= 400000000000000 /\ 18014398509481984 - m <= n /\ wr = w.drewN nq)
  case atStart => exact ⟨m, e + 52, rfl, rfl, hm, by omega, by omega, by omega, rfl⟩
  case round =>
   clear hm h1 h2
   obtain ⟨m, e, rfl, rfl, hm, h1, h2, h3, rfl⟩ := hrel
   by_cases hz : m = 0
   ·have bz : ((m : Int) != 0) = false := by rw [bne_eq_false_iff_eq]; omega
    clear hz
    go_wp2_with fail
    all_goals (go_meet; exact ⟨_, _, rfl, rfl, hm, by omega, by omega, rfl⟩)
   ·have bz : ((m : Int) != 0) = true := by rw [bne_iff_ne]; omega
    by_cases hs : m < 18014398509481984
    ·have bs : ((m : Int) / 18014398509481984 == 0) = true := by rw [beq_iff_eq]; omega
     go_wp2_with fail
     all_goals (go_roundg (gk - 1); (case measure => omega); (case rel => exact ⟨m * 2, e - 1, by go_num, rfl, by omega, by omega, by omega, by omega, rfl⟩))
    ·have bs : ((m : Int) / 18014398509481984 == 0) = false := by rw [beq_eq_false_iff_ne]; omega
     go_wp2_with fail
     all_goals (go_meet; exact ⟨_, _, rfl, rfl, hm, by omega, by omega, rfl⟩)
 case rest =>
  obtain ⟨m, e, rfl, rfl, hm, h1, h2, rfl⟩ := hcut
  go_upto_if 58 with fail
  go_cut [2] from 59 (fun s2 wx => ∃ (m : Nat), s2 = .int .u64 m /\ m < 18446744073709551616 /\ wx = w.drewN nq)
  case first =>
   have HOR := Lib.hid (bits_or1_u64 m hm)
   cases tr <;> (go_wp2_with fail; go_meet)
   ·exact ⟨m, rfl, hm, rfl⟩
   ·exact ⟨m / 2 * 2 + 1, vint HOR.out, by omega, rfl⟩
  case rest =>
   clear hm
   obtain ⟨m, rfl, hm, rfl⟩ := hcut
   go_upto_block 2 with fail
   go_cut [2, 3] from 61 (fun s2 s3 wx => ∃ (m : Nat) (e : Int), s2 = .int .u64 m /\ s3 = .int .i64 e /\ m < 36028797018963968 /\ -400000000000000000 <= e /\ e <= 400000000000064 /\ wx = w.drewN nq)
   case first =>
    have hm64 : m < 2 ^ 64 := hm
    have HM := Lib.hid hm64
    clear hm64
    go_wp2_with fail
    go_loopg [2, 3] 64 (fun n v2 v3 wr => ∃ (m : Nat) (e : Int), v2 = .int .u64 m /\ v3 = .int .i64 e /\ m < 18446744073709551616 /\ -400000000000000000 <= e /\ e + n <= 400000000000064 /\ Hid (m < 2 ^ n) /\ wr = w.drewN nq)
    case atStart => exact ⟨m, e, rfl, rfl, hm, h1, by omega, HM, rfl⟩
    case round =>
     clear hm h1 h2 HM
     obtain ⟨m, e, rfl, rfl, hm, h1, h2, h3, rfl⟩ := hrel
     by_cases hs : m < 36028797018963968
     ·have bs : ((m : Int) / 36028797018963968 != 0) = false := by rw [bne_eq_false_iff_eq]; omega
      go_wp2_with fail
      all_goals (go_meet; exact ⟨_, _, rfl, rfl, hs, by omega, by omega, rfl⟩)
     ·have bs : ((m : Int) / 36028797018963968 != 0) = true := by rw [bne_iff_ne]; omega
      have h56 := pow55 m gk h3.out (by omega)
      have hh := hv_bits m hm
      have hl := hv_lt m (by omega)
      have H4 := Lib.hid (show hv m < 2 ^ (gk - 1) from hv_pow m (gk - 1) (by rw [show gk - 1 + 1 = gk from by omega]; exact h3.out) (by omega))
      generalize hv m = q at hh hl H4
      go_wp2_with (rw [hh])
      all_goals (go_roundg (gk - 1); (case measure => omega); (case rel => exact ⟨q, e + 1, rfl, rfl, by omega, by omega, by omega, H4, rfl⟩))
   case rest =>
    clear hm h1 h2
    obtain ⟨m, e, rfl, rfl, hm, h1, h2, rfl⟩ := hcut
    go_upto_block 4 with fail
    go_cut [2, 3] from 77 (fun s2 s3 wx => ∃ (m : Nat) (e : Int), s2 = .int .u64 m /\ s3 = .int .i64 e /\ m < 36028797018963968 /\ -400000000000000000 <= e /\ e <= 400000000000064 /\ (1 < m -> -1024 <= e) /\ wx = w.drewN nq)
    case first =>
     go_wp2_with fail
     go_loopg [2, 3] m (fun n v2 v3 wr => ∃ (m : Nat) (e : Int), n = m /\ v2 = .int .u64 m /\ v3 = .int .i64 e /\ m < 36028797018963968 /\ -400000000000000000 <= e /\ e <= 400000000000064 /\ wr = w.drewN nq)
     case atStart => exact ⟨m, e, rfl, rfl, rfl, hm, h1, h2, rfl⟩
     case round =>
      clear hm h1 h2
      obtain ⟨m, e, rfl, rfl, rfl, hm, h1, h2, rfl⟩ := hrel
      by_cases hg : 1 < gk
      ·by_cases he : e < -1024
       ·have hh := hv_bits gk (by omega)
        have hl := hv_lt gk hg
        generalize hv gk = q at hh hl
        go_wp2_with (rw [hh])
        all_goals (go_roundg q; (case measure => omega); (case rel => exact ⟨q, e + 1, rfl, rfl, rfl, by omega, by omega, by omega, rfl⟩))
       ·go_wp2_with fail
        all_goals (go_meet; exact ⟨_, _, rfl, rfl, hm, by omega, by omega, by omega, rfl⟩)
      ·go_wp2_with fail
       all_goals (go_meet; exact ⟨_, _, rfl, rfl, hm, by omega, by omega, by omega, rfl⟩)
    case rest =>
     clear hm h1 h2
     obtain ⟨m, e, rfl, rfl, hm, h1, h2, h3, rfl⟩ := hcut
     go_upto_if 103 with fail
     go_cut [2, 3] from 104 (fun s2 s3 wx => ∃ (m : Nat) (e : Int), s2 = .int .u64 m /\ s3 = .int .i64 e /\ m < 9007199254740992 /\ -400000000000000000 <= e /\ e <= 400000000000099 /\ (4503599627370496 <= m -> -1022 <= e) /\ wx = w.drewN nq)
     case first =>
      by_cases hb : m / 4 + 1 = 9007199254740992
      ·have bb : ((m : Int) / 4 + 1 == 9007199254740992) = true := by rw [beq_iff_eq]; omega
       have HB := Lib.hid hb
       clear hb
       go_wp2_with fail
       all_goals go_meet
       ·exact ⟨(m / 4 + 1) / 2, _, vint (by omega), rfl, by omega, by omega, by omega, by omega, rfl⟩
       ·exact ⟨m / 4, _, vint (by omega), rfl, by omega, by omega, by omega, by omega, rfl⟩
      ·have bb : ((m : Int) / 4 + 1 == 9007199254740992) = false := by rw [beq_eq_false_iff_ne]; omega
       go_wp2_with fail
       all_goals go_meet
       ·exact ⟨m / 4 + 1, _, vint (by omega), rfl, by omega, by omega, by omega, by omega, rfl⟩
       ·exact ⟨m / 4, _, vint (by omega), rfl, by omega, by omega, by omega, by omega, rfl⟩
     case rest =>
      clear hm h1 h2 h3
      obtain ⟨m, e, rfl, rfl, hm, h1, h2, h3, rfl⟩ := hcut
      by_cases hs : m < 4503599627370496
      ·have bs : ((m : Int) / 4503599627370496 == 0) = true := by rw [beq_iff_eq]; omega
       have H1 := Lib.hid (show bits BinOp.or IntKind.u64 (bits BinOp.and IntKind.u64 (m : Int) 4503599627370495) (IntKind.u64.wrap (IntKind.u64.wrap (bits BinOp.and IntKind.i64 0 2047) * 4503599627370496)) = (m : Int) by
        rw [bits_mask52 m (by omega), show (0 : Int) = (-1023) + 1023 from rfl, exp_word (-1023) (by omega) (by omega), show ((-1023 : Int) + 1023).toNat = 0 from rfl, or_exp _ 0 (by omega) (by omega)]; omega)
       have H2 := Lib.hid (or_top m (by omega))
       have H3 := Lib.hid (fun neg => valid_sg neg m (by omega))
       cases neg
       ·go_wp2_with fail
        go_quiet (fail)
        go_wp2_with (first | rw [H1.out] | (rw [hpe.out]; go_simp))
        go_returns
        exact ⟨⟨_, rfl⟩, sg false + m, H3.out _, Or.inl (retF (by show m = 0 + m; omega))⟩
       ·go_wp2_with fail
        go_quiet (fail)
        go_wp2_with (rw [H1.out])
        go_quiet (fail)
        go_wp2_with (first | rw [H2.out] | (rw [hpe.out]; go_simp))
        go_returns
        exact ⟨⟨_, rfl⟩, sg true + m, H3.out _, Or.inl (retF rfl)⟩
      ·have bs : ((m : Int) / 4503599627370496 == 0) = false := by rw [beq_eq_false_iff_ne]; omega
       by_cases he : e <= 1023
       ·have h4 := h3 (by omega)
        obtain ⟨R, hR⟩ : ∃ R, R = (e + 1023).toNat * 4503599627370496 + m % 4503599627370496 := ⟨_, rfl⟩
        have hR2 : R <= 9218868437227405312 := by omega
        have H1 := Lib.hid (show bits BinOp.or IntKind.u64 (bits BinOp.and IntKind.u64 (m : Int) 4503599627370495) (IntKind.u64.wrap (IntKind.u64.wrap (bits BinOp.and IntKind.i64 (e + 1023) 2047) * 4503599627370496)) = (R : Int) by
         rw [bits_mask52 m (by omega), exp_word e (by omega) (by omega), or_exp _ _ (by omega) (by omega), hR])
        have H2 := Lib.hid (or_top R (by omega))
        have H3 := Lib.hid (fun neg => valid_sg neg R (by omega))
        clear hR
        cases neg
        ·go_wp2_with fail
         go_quiet (fail)
         go_wp2_with (first | rw [H1.out] | (rw [hpe.out]; go_simp))
         go_returns
         exact ⟨⟨_, rfl⟩, sg false + R, H3.out _, Or.inl (retF (by show R = 0 + R; omega))⟩
        ·go_wp2_with fail
         go_quiet (fail)
         go_wp2_with (rw [H1.out])
         go_quiet (fail)
         go_wp2_with (first | rw [H2.out] | (rw [hpe.out]; go_simp))
         go_returns
         exact ⟨⟨_, rfl⟩, sg true + R, H3.out _, Or.inl (retF rfl)⟩
       ·obtain ⟨R, hR⟩ : ∃ R, R = 2047 * 4503599627370496 := ⟨_, rfl⟩
        have H1 := Lib.hid (show bits BinOp.or IntKind.u64 (bits BinOp.and IntKind.u64 4503599627370496 4503599627370495) (IntKind.u64.wrap (IntKind.u64.wrap (bits BinOp.and IntKind.i64 2047 2047) * 4503599627370496)) = (R : Int) by
         have h1 := bits_mask52 4503599627370496 (by omega)
         have h2 := exp_word 1024 (by omega) (by omega)
         rw [show ((4503599627370496 : Nat) : Int) = 4503599627370496 from rfl] at h1
         rw [show (1024 : Int) + 1023 = 2047 from rfl] at h2
         rw [h1, h2, show (4503599627370496 % 4503599627370496 : Nat) = 0 from by decide, show (2047 : Int).toNat = 2047 from rfl, or_exp 0 2047 (by omega) (by omega), hR])
        have H2 := Lib.hid (or_top R (by omega))
        have H3 := Lib.hid (fun neg => valid_sg neg R (by omega))
        clear hR
        cases neg
        ·go_wp2_with fail
         go_quiet (fail)
         go_wp2_with (first | rw [H1.out] | (rw [hpe.out]; go_simp))
         go_returns
         exact ⟨⟨_, rfl⟩, sg false + R, H3.out _, Or.inr (retF (by show R = 0 + R; omega))⟩
        ·go_wp2_with fail
         go_quiet (fail)
         go_wp2_with (rw [H1.out])
         go_quiet (fail)
         go_wp2_with (first | rw [H2.out] | (rw [hpe.out]; go_simp))
         go_returns
         exact ⟨⟨_, rfl⟩, sg true + R, H3.out _, Or.inr (retF rfl)⟩
end Go.Proofs.YtdfolbmoohcblaaGreatDoor
namespace Go.Proofs.YtdfolbmoohcblaaGreatDoor
open Go.RowKit
structure Dec (w : World) (g : Nat) (D : Nat -> Nat) (nd : Nat) (dp : Int) (neg tr : Bool) : Prop where
 cells : ∃ cs, w.heap[g]? = some (.cells cs 179 (0, 0)) /\ (∀ i, i < 800 -> cs[i]? = some (.int .u8 (D i))) /\ cs[800]? = some (.int .i64 nd) /\ cs[801]? = some (.int .i64 dp) /\ cs[802]? = some (.bool neg) /\ cs[803]? = some (.bool tr)
 byte : ∀ i, D i < 256
theorem Dec.d {w g D nd dp neg tr} (h : Dec w g D nd dp neg tr) (i : Nat) (hi : i < 800) : w.cell? ⟨g, i, none⟩ = some (.int .u8 (D i)) := by
 obtain ⟨cs, h0, h1, _⟩ := h.cells
 rw [Joins.cell_of_block h0, h1 i hi]
theorem Dec.nd {w g D nd dp neg tr} (h : Dec w g D nd dp neg tr) : w.cell? ⟨g, 800, none⟩ = some (.int .i64 nd) := by
 obtain ⟨cs, h0, _, h1, _⟩ := h.cells
 rw [Joins.cell_of_block h0, h1]
theorem Dec.dp {w g D nd dp neg tr} (h : Dec w g D nd dp neg tr) : w.cell? ⟨g, 801, none⟩ = some (.int .i64 dp) := by
 obtain ⟨cs, h0, _, _, h1, _⟩ := h.cells
 rw [Joins.cell_of_block h0, h1]
theorem Dec.ng {w g D nd dp neg tr} (h : Dec w g D nd dp neg tr) : w.cell? ⟨g, 802, none⟩ = some (.bool neg) := by
 obtain ⟨cs, h0, _, _, _, h1, _⟩ := h.cells
 rw [Joins.cell_of_block h0, h1]
theorem Dec.trc {w g D nd dp neg tr} (h : Dec w g D nd dp neg tr) : w.cell? ⟨g, 803, none⟩ = some (.bool tr) := by
 obtain ⟨cs, h0, _, _, _, _, h1⟩ := h.cells
 rw [Joins.cell_of_block h0, h1]
theorem Dec.unfrozen {w g D nd dp neg tr} (h : Dec w g D nd dp neg tr) (i : Nat) : w.frozen? ⟨g, i, none⟩ = false := by
 obtain ⟨cs, h0, _⟩ := h.cells
 exact Joins.unfrozen_of_block h0 i
def upd (D : Nat -> Nat) (i v : Nat) : Nat -> Nat := fun j => if j = i then v else D j
theorem Dec.setD {w g D nd dp neg tr} (h : Dec w g D nd dp neg tr) (i v : Nat) (hi : i < 800) (hv : v < 256) : Dec (w.setCell ⟨g, i, none⟩ (.int .u8 v)) g (upd D i v) nd dp neg tr := by
 obtain ⟨⟨cs, h0, h1, h2, h3, h4, h5⟩, hb⟩ := h
 have hsz : i < cs.size := (Array.getElem?_eq_some_iff.1 (h1 i hi)).1
 refine ⟨⟨_, Joins.block_setCell h0 _, ?_, ?_, ?_, ?_, ?_⟩, ?_⟩
 ·intro j hj
  rw [Array.getElem?_setIfInBounds]
  unfold upd
  by_cases e : i = j
  ·subst e; simp [hsz]
  ·rw [if_neg e, if_neg (fun h => e h.symm)]; exact h1 j hj
 ·rw [Array.getElem?_setIfInBounds_ne (by omega)]; exact h2
 ·rw [Array.getElem?_setIfInBounds_ne (by omega)]; exact h3
 ·rw [Array.getElem?_setIfInBounds_ne (by omega)]; exact h4
 ·rw [Array.getElem?_setIfInBounds_ne (by omega)]; exact h5
 ·intro j; unfold upd; split; exact hv; exact hb j
theorem Dec.setNd {w g D nd dp neg tr} (h : Dec w g D nd dp neg tr) (v : Nat) : Dec (w.setCell ⟨g, 800, none⟩ (.int .i64 v)) g D v dp neg tr := by
 obtain ⟨⟨cs, h0, h1, h2, h3, h4, h5⟩, hb⟩ := h
 have hsz : 800 < cs.size := (Array.getElem?_eq_some_iff.1 h2).1
 refine ⟨⟨_, Joins.block_setCell h0 _, ?_, ?_, ?_, ?_, ?_⟩, hb⟩
 ·intro j hj; rw [Array.getElem?_setIfInBounds_ne (by omega)]; exact h1 j hj
 ·rw [Array.getElem?_setIfInBounds_self_of_lt hsz]
 ·rw [Array.getElem?_setIfInBounds_ne (by omega)]; exact h3
 ·rw [Array.getElem?_setIfInBounds_ne (by omega)]; exact h4
 ·rw [Array.getElem?_setIfInBounds_ne (by omega)]; exact h5
theorem Dec.setDp {w g D nd dp neg tr} (h : Dec w g D nd dp neg tr) (v : Int) : Dec (w.setCell ⟨g, 801, none⟩ (.int .i64 v)) g D nd v neg tr := by
 obtain ⟨⟨cs, h0, h1, h2, h3, h4, h5⟩, hb⟩ := h
 have hsz : 801 < cs.size := (Array.getElem?_eq_some_iff.1 h3).1
 refine ⟨⟨_, Joins.block_setCell h0 _, ?_, ?_, ?_, ?_, ?_⟩, hb⟩
 ·intro j hj; rw [Array.getElem?_setIfInBounds_ne (by omega)]; exact h1 j hj
 ·rw [Array.getElem?_setIfInBounds_ne (by omega)]; exact h2
 ·rw [Array.getElem?_setIfInBounds_self_of_lt hsz]
 ·rw [Array.getElem?_setIfInBounds_ne (by omega)]; exact h4
 ·rw [Array.getElem?_setIfInBounds_ne (by omega)]; exact h5
theorem Dec.setNg {w g D nd dp neg tr} (h : Dec w g D nd dp neg tr) (v : Bool) : Dec (w.setCell ⟨g, 802, none⟩ (.bool v)) g D nd dp v tr := by
 obtain ⟨⟨cs, h0, h1, h2, h3, h4, h5⟩, hb⟩ := h
 have hsz : 802 < cs.size := (Array.getElem?_eq_some_iff.1 h4).1
 refine ⟨⟨_, Joins.block_setCell h0 _, ?_, ?_, ?_, ?_, ?_⟩, hb⟩
 ·intro j hj; rw [Array.getElem?_setIfInBounds_ne (by omega)]; exact h1 j hj
 ·rw [Array.getElem?_setIfInBounds_ne (by omega)]; exact h2
 ·rw [Array.getElem?_setIfInBounds_ne (by omega)]; exact h3
 ·rw [Array.getElem?_setIfInBounds_self_of_lt hsz]
 ·rw [Array.getElem?_setIfInBounds_ne (by omega)]; exact h5
theorem Dec.setTr {w g D nd dp neg tr} (h : Dec w g D nd dp neg tr) (v : Bool) : Dec (w.setCell ⟨g, 803, none⟩ (.bool v)) g D nd dp neg v := by
 obtain ⟨⟨cs, h0, h1, h2, h3, h4, h5⟩, hb⟩ := h
 have hsz : 803 < cs.size := (Array.getElem?_eq_some_iff.1 h5).1
 refine ⟨⟨_, Joins.block_setCell h0 _, ?_, ?_, ?_, ?_, ?_⟩, hb⟩
 ·intro j hj; rw [Array.getElem?_setIfInBounds_ne (by omega)]; exact h1 j hj
 ·rw [Array.getElem?_setIfInBounds_ne (by omega)]; exact h2
 ·rw [Array.getElem?_setIfInBounds_ne (by omega)]; exact h3
 ·rw [Array.getElem?_setIfInBounds_ne (by omega)]; exact h4
 ·rw [Array.getElem?_setIfInBounds_self_of_lt hsz]
theorem Dec.drewN {w g D nd dp neg tr} (h : Dec w g D nd dp neg tr) (n : Nat) : Dec (w.drewN n) g D nd dp neg tr := ⟨h.cells, h.byte⟩
theorem Dec.lt {w g D nd dp neg tr} (h : Dec w g D nd dp neg tr) : g < w.heap.size := by
 obtain ⟨cs, h0, _⟩ := h.cells
 exact (Array.getElem?_eq_some_iff.1 h0).1
end Go.Proofs.YtdfolbmoohcblaaGreatDoor
namespace Go.Proofs.YtdfolbmoohcblaaGreatDoor
def dvf (D : Nat -> Nat) (i : Nat) : Nat -> Nat
 | 0 => 0
 | n + 1 => dvf D i n * 10 + (D (i + n) - 48)
def Gd (D : Nat -> Nat) (n : Nat) : Prop := ∀ i, i < n -> 48 <= D i /\ D i <= 57
theorem dvf_lt {D : Nat -> Nat} {nd : Nat} (h : Gd D nd) (i : Nat) : ∀ n, i + n <= nd -> dvf D i n < 10 ^ n
 | 0, _ => by simp [dvf]
 | n + 1, hn => by
  have h1 := dvf_lt h i n (by omega)
  have h2 := h (i + n) (by omega)
  rw [Nat.pow_succ]; unfold dvf; omega
theorem dvf_head {D : Nat -> Nat} (i : Nat) : ∀ n, dvf D i (n + 1) = (D i - 48) * 10 ^ n + dvf D (i + 1) n
 | 0 => by simp [dvf]
 | n + 1 => by
  rw [dvf, dvf_head i n, dvf, Nat.pow_succ, Nat.add_mul, <- Nat.mul_assoc]
  rw [show i + (n + 1) = i + 1 + n from by omega]; omega
theorem dvf_split {D : Nat -> Nat} (i : Nat) (r : Nat) : ∀ n, dvf D i (r + n) = dvf D i r * 10 ^ n + dvf D (i + r) n
 | 0 => by simp [dvf]
 | n + 1 => by
  rw [show r + (n + 1) = (r + n) + 1 from by omega, dvf, dvf_split i r n, dvf, Nat.pow_succ, Nat.add_mul, <- Nat.mul_assoc]
  rw [show i + (r + n) = i + r + n from by omega]; omega
def lvl (l : List UInt8) : Nat := l.foldl (fun a c => a * 10 + (c.toNat - 48)) 0
theorem lvl_fold (l : List UInt8) : ∀ a : Nat, l.foldl (fun a c => a * 10 + (c.toNat - 48)) a = a * 10 ^ l.length + lvl l := by
 unfold lvl
 induction l with
 | nil => intro a; simp
 | cons c r ih =>
  intro a
  rw [List.foldl_cons, ih, List.foldl_cons, ih (0 * 10 + (c.toNat - 48)), List.length_cons, Nat.pow_succ]
  rw [Nat.add_mul, Nat.add_mul, Nat.mul_assoc, Nat.mul_comm 10]; simp; omega
theorem lvl_cons (c : UInt8) (r : List UInt8) : lvl (c :: r) = (c.toNat - 48) * 10 ^ r.length + lvl r := by
 unfold lvl; rw [List.foldl_cons, lvl_fold]; simp [lvl]
def allD (l : List UInt8) : Bool := l.all fun c => Nat.ble 48 c.toNat && Nat.ble c.toNat 57
def lastN (l : List UInt8) : Bool := match l.getLast? with | none => true | some c => c != 48
theorem lvl_lt : ∀ (l : List UInt8), allD l = true -> lvl l < 10 ^ l.length
 | [], _ => by simp [lvl]
 | c :: r, h => by
  unfold allD at h
  rw [List.all_cons, Bool.and_eq_true, Bool.and_eq_true, Nat.ble_eq, Nat.ble_eq] at h
  have h1 := lvl_lt r h.2
  rw [lvl_cons, List.length_cons, Nat.pow_succ]
  have h2 : (c.toNat - 48) * 10 ^ r.length <= 9 * 10 ^ r.length := Nat.mul_le_mul_right _ (by omega)
  omega
theorem lvl_pos : ∀ (l : List UInt8), allD l = true -> lastN l = true -> l ≠ [] -> 0 < lvl l
 | [], _, _, h => absurd rfl h
 | [c], h, hl, _ => by
  simp [allD] at h
  simp [lastN] at hl
  simp [lvl]
  have : c.toNat ≠ 48 := fun e => hl (UInt8.toNat_inj.1 e)
  omega
 | c :: d :: r, h, hl, _ => by
  unfold allD at h
  rw [List.all_cons, Bool.and_eq_true] at h
  have := lvl_pos (d :: r) h.2 (by simpa [lastN] using hl) (by simp)
  rw [lvl_cons]; omega
def pil (D : Nat -> Nat) (nd : Nat) : List UInt8 -> Nat -> Bool
 | [], _ => false
 | c :: r, i => if nd <= i then true else if D i = c.toNat then pil D nd r (i + 1) else decide (D i < c.toNat)
theorem pil_iff {D : Nat -> Nat} {nd : Nat} (hD : Gd D nd) : ∀ (l : List UInt8) (i : Nat), i <= nd -> allD l = true -> lastN l = true ->
  (pil D nd l i = true ↔ dvf D i (nd - i) * 10 ^ l.length < lvl l * 10 ^ (nd - i))
 | [], i, _, _, _ => by simp [pil, lvl]
 | c :: r, i, hi, h, hl => by
  have hpos := lvl_pos (c :: r) h hl (by simp)
  have hall := h
  unfold allD at h
  rw [List.all_cons, Bool.and_eq_true, Bool.and_eq_true, Nat.ble_eq, Nat.ble_eq] at h
  unfold pil
  by_cases hn : nd <= i
  ·rw [if_pos hn, show nd - i = 0 from by omega]
   simp [dvf]; exact hpos
  ·rw [if_neg hn]
   have hd := hD i (by omega)
   have ht := dvf_lt hD (i + 1) (nd - (i + 1)) (by omega)
   have hc := lvl_lt r h.2
   rw [show nd - i = (nd - (i + 1)) + 1 from by omega, dvf_head, lvl_cons, List.length_cons]
   have hl' : r ≠ [] -> lastN r = true := by
    intro hr
    cases r with
    | nil => exact absurd rfl hr
    | cons d r => simpa [lastN] using hl
   have ih : pil D nd r (i + 1) = true ↔ dvf D (i + 1) (nd - (i + 1)) * 10 ^ r.length < lvl r * 10 ^ (nd - (i + 1)) := by
    by_cases hr : r = []
    ·subst hr; simp [pil, lvl]
    ·exact pil_iff hD r (i + 1) (by omega) h.2 (hl' hr)
   generalize nd - (i + 1) = a at ht ih ⊢
   generalize r.length = b at hc ih ⊢
   generalize dvf D (i + 1) a = T at ht ih ⊢
   generalize lvl r = C at hc ih ⊢
   rw [Nat.pow_succ, Nat.pow_succ]
   have hA : 0 < 10 ^ a := Nat.pow_pos (by decide)
   have hB : 0 < 10 ^ b := Nat.pow_pos (by decide)
   generalize 10 ^ a = A at *
   generalize 10 ^ b = B at *
   have e1 : ((D i - 48) * A + T) * (B * 10) = ((D i - 48) * (A * B) + T * B) * 10 := by grind
   have e2 : ((c.toNat - 48) * B + C) * (A * 10) = ((c.toNat - 48) * (A * B) + C * A) * 10 := by grind
   rw [e1, e2]
   have hTB : T * B < A * B := Nat.mul_lt_mul_of_pos_right ht hB
   have hCA : C * A < A * B := by rw [Nat.mul_comm A B]; exact Nat.mul_lt_mul_of_pos_right hc hA
   by_cases he : D i = c.toNat
   ·rw [if_pos he, ih, he]; omega
   ·rw [if_neg he, decide_eq_true_eq]
    constructor
    ·intro hlt
     have : (D i - 48 + 1) * (A * B) <= (c.toNat - 48) * (A * B) := Nat.mul_le_mul_right _ (by omega)
     rw [Nat.add_mul] at this; omega
    ·intro hlt
     apply Decidable.byContradiction
     intro hge
     have : (c.toNat - 48 + 1) * (A * B) <= (D i - 48) * (A * B) := Nat.mul_le_mul_right _ (by omega)
     rw [Nat.add_mul] at this; omega
def CutOk (k delta : Nat) (l : List UInt8) : Prop := allD l = true /\ lastN l = true /\ lvl l = 5 ^ k /\ l.length + delta = k + 1 /\ 1 <= delta /\ 2 ^ k <= 10 ^ delta /\ 10 ^ (delta - 1) <= 2 ^ k
theorem left_digits {D : Nat -> Nat} {nd k delta : Nat} {l : List UInt8} (hD : Gd D nd) (h0 : 49 <= D 0) (hn : 0 < nd) (hc : CutOk k delta l) :
  ∃ d, d = (if pil D nd l 0 then delta - 1 else delta) /\ 10 ^ (nd + d - 1) <= dvf D 0 nd * 2 ^ k /\ dvf D 0 nd * 2 ^ k < 10 ^ (nd + d) := by
 obtain ⟨c1, c2, c3, c4, c5, c6, c7⟩ := hc
 have hp := pil_iff hD l 0 (Nat.zero_le _) c1 c2
 rw [Nat.sub_zero, c3] at hp
 have hlt := lvl_lt l c1
 rw [c3] at hlt
 refine ⟨_, rfl, ?_⟩
 have hN1 := dvf_lt hD 0 nd (by omega)
 have hN0 : 10 ^ (nd - 1) <= dvf D 0 nd := by
  obtain ⟨m, rfl⟩ : ∃ m, nd = m + 1 := ⟨nd - 1, by omega⟩
  rw [dvf_head]
  have : 1 * 10 ^ m <= (D 0 - 48) * 10 ^ m := Nat.mul_le_mul_right _ (by omega)
  simp only [Nat.add_sub_cancel]; omega
 generalize dvf D 0 nd = N at *
 obtain ⟨L, hL⟩ : ∃ L, l.length = L := ⟨_, rfl⟩
 rw [hL] at hp hlt c4
 have h10 : 2 ^ k * 5 ^ k = 10 ^ k := by rw [<- Nat.mul_pow]
 have h2k : 0 < 2 ^ k := Nat.two_pow_pos _
 have hL0 : 0 < 10 ^ L := Nat.pow_pos (by decide)
 cases hpil : pil D nd l 0
 ·
  simp only [Bool.false_eq_true, if_false]
  have hge : 5 ^ k * 10 ^ nd <= N * 10 ^ L := by
   rw [hpil] at hp; simp at hp; exact hp
  constructor
  ·
   have h1 := Nat.mul_le_mul_left (2 ^ k) hge
   rw [<- Nat.mul_assoc, h10, <- Nat.pow_add] at h1
   have h2 : 10 ^ (nd + delta - 1) * 10 ^ L <= N * 2 ^ k * 10 ^ L := by
    rw [<- Nat.pow_add, show nd + delta - 1 + L = k + nd from by omega]
    calc 10 ^ (k + nd) <= 2 ^ k * (N * 10 ^ L) := h1
     _ = N * 2 ^ k * 10 ^ L := by rw [Nat.mul_comm N (2 ^ k), Nat.mul_assoc]
   exact Nat.le_of_mul_le_mul_right h2 hL0
  ·
   calc N * 2 ^ k < 10 ^ nd * 2 ^ k := Nat.mul_lt_mul_of_pos_right hN1 h2k
    _ <= 10 ^ nd * 10 ^ delta := Nat.mul_le_mul_left _ c6
    _ = 10 ^ (nd + delta) := by rw [<- Nat.pow_add]
 ·simp only [if_true]
  have hltt : N * 10 ^ L < 5 ^ k * 10 ^ nd := hp.1 hpil
  constructor
  ·rw [show nd + (delta - 1) - 1 = (nd - 1) + (delta - 1) from by omega, Nat.pow_add]
   exact Nat.mul_le_mul hN0 c7
  ·have h1 := Nat.mul_lt_mul_of_pos_left hltt h2k
   rw [<- Nat.mul_assoc (2 ^ k) (5 ^ k), h10, <- Nat.pow_add] at h1
   have h2 : N * 2 ^ k * 10 ^ L < 10 ^ (nd + (delta - 1)) * 10 ^ L := by
    rw [<- Nat.pow_add, show nd + (delta - 1) + L = k + nd from by omega]
    calc N * 2 ^ k * 10 ^ L = 2 ^ k * (N * 10 ^ L) := by rw [Nat.mul_comm N (2 ^ k), Nat.mul_assoc]
     _ < 10 ^ (k + nd) := h1
   exact Nat.lt_of_mul_lt_mul_right h2
def car (D : Nat -> Nat) (k nd r : Nat) : Nat := dvf D r (nd - r) * 2 ^ k / 10 ^ (nd - r)
theorem car_step {D : Nat -> Nat} {k nd r : Nat} (hr : r < nd) :
  dvf D r (nd - r) * 2 ^ k / 10 ^ (nd - (r + 1)) = car D k nd (r + 1) + (D r - 48) * 2 ^ k /\ car D k nd r = (car D k nd (r + 1) + (D r - 48) * 2 ^ k) / 10 := by
 have e : dvf D r (nd - r) * 2 ^ k / 10 ^ (nd - (r + 1)) = car D k nd (r + 1) + (D r - 48) * 2 ^ k := by
  unfold car
  rw [show nd - r = (nd - (r + 1)) + 1 from by omega, dvf_head, Nat.add_mul]
  rw [show (D r - 48) * 10 ^ (nd - (r + 1)) * 2 ^ k = ((D r - 48) * 2 ^ k) * 10 ^ (nd - (r + 1)) from by grind]
  rw [Nat.add_comm, Nat.add_mul_div_right _ _ (Nat.pow_pos (by decide))]
 refine ⟨e, ?_⟩
 rw [<- e, Nat.div_div_eq_div_mul, <- Nat.pow_succ]
 unfold car
 rw [show (nd - (r + 1)).succ = nd - r from by omega]
theorem car_end (D : Nat -> Nat) (k nd : Nat) : car D k nd nd = 0 := by unfold car; simp [dvf]
theorem car_lt {D : Nat -> Nat} {k nd r : Nat} (h : Gd D nd) (hr : r <= nd) : car D k nd r < 2 ^ k := by
 unfold car
 rw [Nat.div_lt_iff_lt_mul (Nat.pow_pos (by decide)), Nat.mul_comm]
 exact Nat.mul_lt_mul_of_pos_left (dvf_lt h r (nd - r) (by omega)) (Nat.two_pow_pos _)
theorem div_zero_w {N e w : Nat} (h : 10 ^ (e - 1) <= N) (hw : w <= e) (hz : N / 10 ^ (e - w) = 0) : w = 0 := by
 rcases Nat.eq_zero_or_pos w with h0 | h0
 ·exact h0
 ·exfalso
  have h1 := (Nat.div_eq_zero_iff_lt (Nat.pow_pos (by decide))).1 hz
  have h2 : 10 ^ (e - w) <= 10 ^ (e - 1) := Nat.pow_le_pow_right (by decide) (by omega)
  omega
theorem div_pos_w {N e w : Nat} (h : N < 10 ^ e) (hz : 0 < N / 10 ^ (e - w)) : 0 < w := by
 rcases Nat.eq_zero_or_pos w with h0 | h0
 ·subst h0
  rw [Nat.sub_zero, Nat.div_eq_of_lt h] at hz; omega
 ·exact h0
theorem div_next {N e w : Nat} (hw : 0 < w) (hwe : w <= e) : N / 10 ^ (e - w) / 10 = N / 10 ^ (e - (w - 1)) := by
 rw [Nat.div_div_eq_div_mul, <- Nat.pow_succ, show (e - w).succ = e - (w - 1) from by omega]
theorem first_digit {N e : Nat} (he : 0 < e) (h1 : 10 ^ (e - 1) <= N) (h2 : N < 10 ^ e) : 1 <= N / 10 ^ (e - 1) /\ N / 10 ^ (e - 1) <= 9 /\ N / 10 ^ (e - 1) % 10 = N / 10 ^ (e - 1) := by
 have a : 1 <= N / 10 ^ (e - 1) := (Nat.le_div_iff_mul_le (Nat.pow_pos (by decide))).2 (by omega)
 have b : N / 10 ^ (e - 1) < 10 := by
  rw [Nat.div_lt_iff_lt_mul (Nat.pow_pos (by decide)), Nat.mul_comm, <- Nat.pow_succ, show (e - 1).succ = e from by omega]; exact h2
 exact ⟨a, by omega, Nat.mod_eq_of_lt b⟩
theorem first_grows {D : Nat -> Nat} {nd k : Nat} (hn : 0 < nd) (h0 : 49 <= D 0) (hk : 0 < k) : D 0 - 48 < dvf D 0 nd * 2 ^ k / 10 ^ (nd - 1) := by
 obtain ⟨m, rfl⟩ : ∃ m, nd = m + 1 := ⟨nd - 1, by omega⟩
 rw [dvf_head, Nat.add_sub_cancel]
 have h2 : 2 <= 2 ^ k := by
  have := Nat.pow_le_pow_right (n := 2) (by decide) (show 1 <= k from hk); simpa using this
 have h3 : (D 0 - 48) * 2 <= ((D 0 - 48) * 10 ^ m + dvf D (0 + 1) m) * 2 ^ k / 10 ^ m := by
  rw [Nat.le_div_iff_mul_le (Nat.pow_pos (by decide))]
  calc (D 0 - 48) * 2 * 10 ^ m = (D 0 - 48) * 10 ^ m * 2 := by grind
   _ <= ((D 0 - 48) * 10 ^ m + dvf D (0 + 1) m) * 2 ^ k := Nat.mul_le_mul (Nat.le_add_right _ _) h2
 omega
def digs (n : Nat) : List UInt8 := (Nat.toDigits 10 n).map fun c => UInt8.ofNat c.toNat
def cutT (k : Nat) : List UInt8 := digs (5 ^ k)
def cutD (k : Nat) : Nat := k + 1 - (cutT k).length
def cutB (k : Nat) : Bool := allD (cutT k) && lastN (cutT k) && lvl (cutT k) == 5 ^ k && Nat.beq ((cutT k).length + cutD k) (k + 1) && Nat.ble 1 (cutD k) && Nat.ble (2 ^ k) (10 ^ cutD k) && Nat.ble (10 ^ (cutD k - 1)) (2 ^ k) && Nat.ble (cutT k).length 100 && Nat.ble (cutD k) 30
theorem cut_all : (List.range 61).all (fun k => k == 0 || cutB k) = true := by decide +kernel
theorem cut_ok {k : Nat} (h1 : 1 <= k) (h2 : k <= 60) : CutOk k (cutD k) (cutT k) /\ (cutT k).length <= 100 /\ cutD k <= 30 := by
 have h := List.all_eq_true.1 cut_all k (List.mem_range.2 (by omega))
 rw [Bool.or_eq_true] at h
 rcases h with h | h
 ·rw [beq_iff_eq] at h; omega
 ·unfold cutB at h
  simp only [Bool.and_eq_true, beq_iff_eq, Nat.ble_eq] at h
  obtain ⟨⟨⟨⟨⟨⟨⟨⟨a, b⟩, c⟩, d⟩, e⟩, f⟩, g⟩, i⟩, j⟩ := h
  exact ⟨⟨a, b, c, Nat.eq_of_beq_eq_true d, e, f, g⟩, i, j⟩
theorem pow10_19 {r k n : Nat} (hk : k <= 60) (h : 10 ^ (r - 1) <= n) (hn : n < 2 ^ k) : r <= 19 := by
 apply Decidable.byContradiction
 intro hr
 have h1 : 10 ^ 19 <= 10 ^ (r - 1) := Nat.pow_le_pow_right (by decide) (by omega)
 have h2 : 2 ^ k <= 2 ^ 60 := Nat.pow_le_pow_right (by decide) hk
 have h3 : (2 : Nat) ^ 60 < 10 ^ 19 := by decide
 omega
theorem dvf_succ (D : Nat -> Nat) (r : Nat) : dvf D 0 (r + 1) = dvf D 0 r * 10 + (D r - 48) := by rw [dvf, Nat.zero_add]
theorem dvf_lo {D : Nat -> Nat} (h0 : 49 <= D 0) {r : Nat} (hr : 0 < r) : 10 ^ (r - 1) <= dvf D 0 r := by
 obtain ⟨m, rfl⟩ : ∃ m, r = m + 1 := ⟨r - 1, by omega⟩
 rw [dvf_head, Nat.add_sub_cancel]
 have : 1 * 10 ^ m <= (D 0 - 48) * 10 ^ m := Nat.mul_le_mul_right _ (by omega)
 omega
theorem dvf_one (D : Nat -> Nat) : dvf D 0 1 = D 0 - 48 := by simp [dvf]
def Lft (k t n : Nat) : Prop := t <= k /\ 2 ^ (k - t) ∣ n
theorem Lft.start (k n : Nat) : Lft k k n := ⟨Nat.le_refl _, by simp⟩
theorem Lft.next {k t n : Nat} (h : Lft k (t + 1) n) : Lft k t (n % 2 ^ k * 10) := by
 obtain ⟨h1, h2⟩ := h
 refine ⟨by omega, ?_⟩
 have h3 : 2 ^ (k - (t + 1)) ∣ n % 2 ^ k := (Nat.dvd_mod_iff (Nat.pow_dvd_pow 2 (by omega))).2 h2
 rw [show k - t = k - (t + 1) + 1 from by omega, Nat.pow_succ]
 exact Nat.mul_dvd_mul h3 ⟨5, rfl⟩
theorem Lft.last {k n : Nat} (h : Lft k 0 n) : n % 2 ^ k * 10 = 0 := by
 obtain ⟨_, h2⟩ := h
 rw [Nat.sub_zero] at h2
 rw [Nat.mod_eq_zero_of_dvd h2, Nat.zero_mul]
theorem shr_dig {n k : Nat} (h2 : n < 10 * 2 ^ k) : n / 2 ^ k <= 9 := by
 have := (Nat.div_lt_iff_lt_mul (Nat.two_pow_pos k)).2 h2
 omega
theorem shr_pos {n k : Nat} (h : 2 ^ k <= n) : 1 <= n / 2 ^ k := (Nat.le_div_iff_mul_le (Nat.two_pow_pos k)).2 (by omega)
theorem mask_lt (n k : Nat) : n % 2 ^ k < 2 ^ k := Nat.mod_lt _ (Nat.two_pow_pos k)
end Go.Proofs.YtdfolbmoohcblaaGreatDoor
namespace Go.Proofs.YtdfolbmoohcblaaGreatDoor
set_option maxHeartbeats 1000000
set_option maxRecDepth 100000
open Go.RowKit
def At (g : Nat) (w w' : World) : Prop := Below g w w' /\ w'.heap.size = w.heap.size
theorem At.refl (g : Nat) (w : World) : At g w w := ⟨Below.refl _ _, rfl⟩
theorem At.trans {g : Nat} {a b c : World} (h : At g a b) (k : At g b c) : At g a c := ⟨h.1.trans k.1, k.2.trans h.2⟩
theorem At.drewN (g : Nat) (w : World) (n : Nat) : At g w (w.drewN n) := ⟨⟨rfl, rfl, rfl, Nat.le_refl _, fun _ _ => rfl⟩, rfl⟩
theorem At.set {g : Nat} {a b : World} (h : At g a b) (i : Nat) (v : Value) : At g a (b.setCell ⟨g, i, none⟩ v) := by
 exact h.trans ⟨(Below.refl g b).setCell (p := ⟨g, i, none⟩) (Nat.le_refl g) v, by simp [World.setCell]⟩
def TrimRel (w : World) (g : Nat) (D : Nat -> Nat) (nd : Nat) (dp : Int) (neg tr : Bool) (n : Nat) (wr : World) : Prop :=
 n <= nd /\ Dec wr g D n dp neg tr /\ At g w wr /\ (∀ i, n <= i -> i < nd -> D i = 48)
def TrimPost (w : World) (g : Nat) (D : Nat -> Nat) (nd : Nat) (dp : Int) (neg tr : Bool) (e : Ending) (w' : World) : Prop :=
 e = .returned (.tuple #[]) /\ ∃ n, n <= nd /\ Dec w' g D n (if n = 0 then 0 else dp) neg tr /\ At g w w' /\ (∀ i, n <= i -> i < nd -> D i = 48)
theorem trim_any (w : World) (g : Nat) (D : Nat -> Nat) (nd : Nat) (dp : Int) (neg tr : Bool) (h : Dec w g D nd dp neg tr) (hn : nd <= 800) :
  Calls Tryz.prog 127 #[.pointer (some ⟨g, 0, none⟩)] w (TrimPost w g D nd dp neg tr) := by
 go_enter Tryz.func127, Tryz.ntmps127
 go_wp2_with fail
 go_loopg [] nd (fun n wr => TrimRel w g D nd dp neg tr n wr)
 case atStart => exact ⟨Nat.le_refl _, h, At.refl _ _, fun i h1 h2 => by omega⟩
 case round =>
  clear h
  obtain ⟨h1, hd, hat, hz⟩ := hrel
  have cn := hd.nd
  have uf := hd.unfrozen 800
  have HD := Lib.hid (And.intro hd (And.intro hat hz))
  by_cases h0 : 0 < gk
  ·have cd := hd.d (gk - 1) (by omega)
   clear hd hat hz
   by_cases h48 : D (gk - 1) = 48
   ·have b48 : ((D (gk - 1) : Int) == 48) = true := by rw [beq_iff_eq]; omega
    have hdec : decide (0 < (gk : Int)) = true := decide_eq_true (by omega)
    clear h48
    go_wp2_with fail
    go_quiet (fail)
    go_wp2_with fail
    go_roundg (gk - 1)
    case measure => omega
    case rel =>
     obtain ⟨hd, hat, hz⟩ := HD.out
     rw [show ((gk : Int) - 1) = ((gk - 1 : Nat) : Int) from by omega]
     refine ⟨by omega, (hd.drewN nq).setNd (gk - 1), (hat.trans (At.drewN _ _ _)).set _ _, ?_⟩
     intro i h1 h2
     by_cases hi : i = gk - 1
     ·subst hi
      have := beq_iff_eq.1 b48
      omega
     ·exact hz i (by omega) h2
   ·have b48 : ((D (gk - 1) : Int) == 48) = false := by rw [beq_eq_false_iff_ne]; omega
    have hdec : decide (0 < (gk : Int)) = true := decide_eq_true (by omega)
    have b0 : ((gk : Int) == 0) = false := by rw [beq_eq_false_iff_ne]; omega
    clear h48
    go_wp2_with fail
    go_quiet (fail)
    go_wp2_with fail
    go_returns
    obtain ⟨hd, hat, hz⟩ := HD.out
    exact ⟨rfl, gk, by omega, by rw [if_neg (by omega)]; exact hd.drewN nq, hat.trans (At.drewN _ _ _), hz⟩
  ·have e0 : gk = 0 := by omega
   subst e0
   have hdec : decide (0 < ((0 : Nat) : Int)) = false := by decide
   have uf2 := hd.unfrozen 801
   have cdp := hd.dp
   clear hd hat hz
   go_wp2_with fail
   go_quiet (fail)
   go_wp2_with fail
   go_returns
   obtain ⟨hd, hat, hz⟩ := HD.out
   exact ⟨rfl, 0, by omega, by rw [if_pos rfl]; exact (hd.drewN nq).setDp 0, (hat.trans (At.drewN _ _ _)).set _ _, hz⟩
end Go.Proofs.YtdfolbmoohcblaaGreatDoor
