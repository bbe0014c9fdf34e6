/-
For FnReadAgain, part 35: W15c W15d W15e.
-/
import Derived.Test.YtdfolbmoohcblaaGreatDoorM33
import Derived.Test.YtdfolbmoohcblaaGreatDoorM34
import Derived.Test.YtdfolbmoohcblaaGreatDoorM28
set_option linter.all false
namespace Go.Proofs.YtdfolbmoohcblaaGreatDoor
set_option maxHeartbeats 4000000
set_option maxRecDepth 100000
open Go.RowKit
theorem fmtEFG_0n (W0 : World) (B : Nat) (v : Value) (sb : Nat) (S L : List UInt8) (w : World) (hL : L.length <= 1000) (hB : B <= w.heap.size) (h : DS W0 B sb S w v L) :
  Calls Tryz.prog 95 #[v, .bool true, .slice none 0 0, .int .i64 0, .int .i64 0, .int .i64 (-1), .int .u8 103, .bool true] w (EfgPost W0 B sb S L [45, 48]) := by
 obtain ⟨Q, hQ⟩ : ∃ Q, EfgPost W0 B sb S L [45, 48] = Q := ⟨_, rfl⟩
 rw [hQ]
 have H := Lib.hid (And.intro h hQ)
 clear h hQ
 go_enter Tryz.func95, Tryz.ntmps95
 go_wp2_with (at_builtin; refine ds_app rfl _ _ rfl (H.out.1.alloc hB _) rfl w.heap.size 0 1 1 [45] rfl rfl (by omega) (news_new w [45] _ rfl) (by simp; omega) (by simp; omega) ?_)
 intro g1 n1 w1 hd1 hB1
 have HD1 := Lib.hid hd1
 clear hd1
 go_wp2_with (at_builtin; refine ds_app rfl _ _ rfl (HD1.out.alloc hB1 _) rfl w1.heap.size 0 1 1 [48] rfl rfl (by omega) (news_new w1 [48] _ rfl) (by simp; omega) (by simp; omega) ?_)
 intro g2 n2 w2 hd2 hB2
 have HD2 := Lib.hid hd2
 clear hd2
 go_wp2_with fail
 rw [<- H.out.2]
 exact efg_fin HD2.out (by simp)
theorem fmtEFG_0p (W0 : World) (B : Nat) (v : Value) (sb : Nat) (S L : List UInt8) (w : World) (hL : L.length <= 1000) (hB : B <= w.heap.size) (h : DS W0 B sb S w v L) :
  Calls Tryz.prog 95 #[v, .bool false, .slice none 0 0, .int .i64 0, .int .i64 0, .int .i64 (-1), .int .u8 103, .bool true] w (EfgPost W0 B sb S L [48]) := by
 obtain ⟨Q, hQ⟩ : ∃ Q, EfgPost W0 B sb S L [48] = Q := ⟨_, rfl⟩
 rw [hQ]
 have H := Lib.hid (And.intro h hQ)
 clear h hQ
 go_enter Tryz.func95, Tryz.ntmps95
 go_wp2_with (at_builtin; refine ds_app rfl _ _ rfl (H.out.1.alloc hB _) rfl w.heap.size 0 1 1 [48] rfl rfl (by omega) (news_new w [48] _ rfl) (by simp; omega) (by simp; omega) ?_)
 intro g1 n1 w1 hd1 hB1
 have HD1 := Lib.hid hd1
 clear hd1
 go_wp2_with fail
 rw [<- H.out.2]
 exact efg_fin HD1.out (by simp)
theorem fld_exp (a : Nat) (ha : a < 4096) : bits .and .i64 (a : Int) 2047 = ((a % 2048 : Nat) : Int) := by
 have key : (BitVec.ofInt 64 (a : Int) &&& BitVec.ofInt 64 (2047 : Int)).toNat = a % 2048 := by
  rw [BitVec.toNat_and, ofInt_nat64 a (by omega), show (2047 : Int) = ((2047 : Nat) : Int) from rfl, ofInt_nat64 2047 (by omega)]
  exact Nat.and_two_pow_sub_one_eq_mod a 11
 refine (congrArg (fun n : Nat => IntKind.i64.wrap (n : Int)) key).trans ?_
 exact IntWalk.i64_in _ (by constructor <;> omega)
theorem fld_mant (X : Nat) (hX : X < 18446744073709551616) : bits .and .u64 (X : Int) 4503599627370495 = ((X % 4503599627370496 : Nat) : Int) := by
 rw [show (4503599627370495 : Int) = ((4503599627370495 : Nat) : Int) from rfl, bits_and_u64 _ _ hX (by omega)]
 exact congrArg (fun n : Nat => (n : Int)) (Nat.and_two_pow_sub_one_eq_mod X 52)
theorem fld_or (M : Nat) (hM : M < 4503599627370496) : bits .or .u64 (M : Int) 4503599627370496 = ((M + 4503599627370496 : Nat) : Int) := by
 rw [show (4503599627370496 : Int) = ((4503599627370496 : Nat) : Int) from rfl, bits_or_u64 _ _ (by omega) (by omega)]
 apply congrArg (fun n : Nat => (n : Int))
 rw [Nat.or_comm]
 have := Nat.two_pow_add_eq_or_of_lt (i := 52) (b := M) (by omega) 1
 rw [show (2 : Nat) ^ 52 * 1 = 4503599627370496 from by decide] at this
 omega
theorem usc_four (x hi lo s : Nat) (hx : 9223372036854775808 <= x) (hhi : 9223372036854775808 <= hi) (hs : s <= 58) : 4 <= uscaleN x hi lo s := by
 have h1 : 4611686018427387904 <= x * hi / 18446744073709551616 := by
  rw [Nat.le_div_iff_mul_le (by omega)]
  exact Nat.le_trans (by decide) (Nat.mul_le_mul hx hhi)
 have h2 : 2 ^ s <= 2 ^ 58 := Nat.pow_le_pow_right (by decide) hs
 have key : ∀ t, 4611686018427387903 <= t -> 6 <= t / 2 ^ s := by
  intro t ht
  rw [Nat.le_div_iff_mul_le (Nat.two_pow_pos s)]
  omega
 unfold uscaleN
 generalize x * hi / 18446744073709551616 = top at h1 ⊢
 have k1 := key top (by omega)
 have k2 := key (top - 1) (by omega)
 have k3 := key (top - 0) (by omega)
 simp only []
 repeat' split
 all_goals omega
theorem usc_one (x hi lo s : Nat) (hx : 4611686018427387904 <= x) (hhi : 9223372036854775808 <= hi) (hs : s <= 58) : 1 <= uscaleN x hi lo s := by
 have h1 : 2305843009213693952 <= x * hi / 18446744073709551616 := by
  rw [Nat.le_div_iff_mul_le (by omega)]
  exact Nat.le_trans (by decide) (Nat.mul_le_mul hx hhi)
 have h2 : 2 ^ s <= 2 ^ 58 := Nat.pow_le_pow_right (by decide) hs
 have key : ∀ t, 2305843009213693951 <= t -> 2 <= t / 2 ^ s := by
  intro t ht
  rw [Nat.le_div_iff_mul_le (Nat.two_pow_pos s)]
  omega
 unfold uscaleN
 generalize x * hi / 18446744073709551616 = top at h1 ⊢
 have k1 := key top (by omega)
 have k2 := key (top - 1) (by omega)
 have k3 := key (top - 0) (by omega)
 simp only []
 repeat' split
 all_goals omega
theorem shortN_bd (m : Nat) (e : Int) (hm1 : 9223372036854775808 <= m) (hm2 : m < 18446744073709551616) (hmz : m % 2 ^ zOf e = 0) (h1 : -1137 <= e) (h2 : e <= 960) :
  1 <= (shortN m e).1 /\ (shortN m e).1 < 1152921504606846976 /\ -348 <= (shortN m e).2 /\ (shortN m e).2 <= 349 := by
 obtain ⟨hp1, hp2, hs1, hs2⟩ := sp_ok m e h1 h2
 have hzb : 11 <= zOf e /\ zOf e <= 63 := by unfold zOf; omega
 obtain ⟨lh1, lh2, lh3, lh4⟩ := lohi m (zOf e) (by omega) hzb.2 hm2 hmz
 obtain ⟨r1, r2, r3⟩ := row_at (pOf m e) hp1 hp2
 have hs : 4 <= (sOf e (pOf m e)).toNat /\ (sOf e (pOf m e)).toNat <= 58 := by omega
 have hlo : loOf m e < 18446744073709551616 := by unfold loOf; split <;> omega
 have hhi : hiOf m e < 18446744073709551616 := by unfold hiOf; omega
 have u1 : usc m e (loOf m e) < 1152921504606846976 := usc_lt _ _ _ _ hlo r2 hs.1
 have u2 : usc m e (hiOf m e) < 1152921504606846976 := usc_lt _ _ _ _ hhi r2 hs.1
 have u3 : usc m e m < 1152921504606846976 := usc_lt _ _ _ _ hm2 r2 hs.1
 have u4 : 4 <= usc m e m := usc_four _ _ _ _ hm1 r1 hs.2
 have u5 : 4 <= usc m e (hiOf m e) := usc_four _ _ _ _ (by unfold hiOf; omega) r1 hs.2
 have u6 : oddOf m e <= 1 := by unfold oddOf; omega
 have d1 : dminOf m e = (usc m e (loOf m e) + oddOf m e + 3) / 4 := rfl
 have d2 : dmaxOf m e = (usc m e (hiOf m e) - oddOf m e) / 4 := rfl
 have u7 : 1 <= usc m e (loOf m e) := usc_one _ _ _ _ (by unfold loOf; split <;> omega) r1 hs.2
 unfold shortN
 split
 ·exact ⟨by simp only []; omega, by simp only []; omega, by simp only []; omega, by simp only []; omega⟩
 ·split
  ·exact ⟨by simp only []; omega, by simp only []; omega, by simp only []; omega, by simp only []; omega⟩
  ·exact ⟨by simp only []; omega, by simp only []; omega, by simp only []; omega, by simp only []; omega⟩
end Go.Proofs.YtdfolbmoohcblaaGreatDoor
