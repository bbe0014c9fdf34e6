/-
For FnReadAgain, part 28: W8.
-/
import Derived.Test.YtdfolbmoohcblaaGreatDoorM06
import Derived.Deep.DeepCutAuto
import Derived.Deep.LoopGhost
import Derived.Deep.CutBlock
set_option linter.all false
namespace Go.Proofs.YtdfolbmoohcblaaGreatDoor
set_option maxHeartbeats 4000000
set_option maxRecDepth 100000
open Go.RowKit
def zOf (e : Int) : Nat := (max 11 (-1074 - e)).toNat
def skq (m : Nat) (e : Int) : Bool := m == 9223372036854775808 && decide (-1085 < e)
def pOf (m : Nat) (e : Int) : Int := if skq m e then -(((e + 11) * 631305 - 261663) / 2097152) else -((e + zOf e) * 78913 / 262144)
def sOf (e p : Int) : Int := -(e + p * 108853 / 32768 + 3)
def loOf (m : Nat) (e : Int) : Nat := if skq m e then m - 512 else m - 2 ^ (zOf e - 1)
def hiOf (m : Nat) (e : Int) : Nat := m + 2 ^ (zOf e - 1)
def oddOf (m : Nat) (e : Int) : Nat := m / 2 ^ zOf e % 2
def usc (m : Nat) (e : Int) (x : Nat) : Nat := uscaleN x (hiAt (pOf m e)) (loAt (pOf m e)) (sOf e (pOf m e)).toNat
def dminOf (m : Nat) (e : Int) : Nat := (usc m e (loOf m e) + oddOf m e + 3) / 4
def dmaxOf (m : Nat) (e : Int) : Nat := (usc m e (hiOf m e) - oddOf m e) / 4
theorem vi8 {k : IntKind} {a b : Int} (h : a = b) : Value.int k a = .int k b := by rw [h]
def shortN (m : Nat) (e : Int) : Nat × Int :=
 if dminOf m e <= dmaxOf m e / 10 * 10 then (dmaxOf m e / 10, -(pOf m e - 1))
 else if dminOf m e < dmaxOf m e then ((usc m e m + 1 + usc m e m / 4 % 2) / 4, -pOf m e)
 else (dminOf m e, -pOf m e)
def ShortPost (m : Nat) (e : Int) (w : World) (e' : Ending) (w' : World) : Prop :=
 Below w.heap.size w w' /\ e' = .returned (.tuple #[.int .u64 (shortN m e).1, .int .i64 (shortN m e).2])
def spA (e : Int) : Bool := let p := -((e + 11) * 78913 / 262144); decide (-348 <= p /\ p <= 347 /\ 4 <= sOf e p /\ sOf e p <= 58)
def spB (e : Int) : Bool := let p := -(((e + 11) * 631305 - 261663) / 2097152); decide (-348 <= p /\ p <= 347 /\ 4 <= sOf e p /\ sOf e p <= 58)
theorem sp_all : (List.range 2046).all (fun k => spA ((k : Int) - 1085) && spB ((k : Int) - 1085)) = true := by decide +kernel
theorem sp_ok (m : Nat) (e : Int) (h1 : -1137 <= e) (h2 : e <= 960) : -348 <= pOf m e /\ pOf m e <= 347 /\ 4 <= sOf e (pOf m e) /\ sOf e (pOf m e) <= 58 := by
 by_cases hlow : e < -1085
 ·have hz : zOf e = (-1074 - e).toNat := by unfold zOf; omega
  have hs : skq m e = false := by unfold skq; simp; omega
  unfold pOf sOf
  rw [hs, hz]
  simp only [Bool.false_eq_true, if_false]
  have : e + ((-1074 - e).toNat : Int) = -1074 := by omega
  rw [this]; omega
 ·have hz : zOf e = 11 := by unfold zOf; omega
  have h := List.all_eq_true.1 sp_all (e + 1085).toNat (List.mem_range.2 (by omega))
  rw [show (((e + 1085).toNat : Nat) : Int) - 1085 = e from by omega, Bool.and_eq_true] at h
  unfold spA spB at h
  simp only [decide_eq_true_eq] at h
  unfold pOf
  cases skq m e
  ·simp only [Bool.false_eq_true, if_false, hz]; exact h.1
  ·simp only [if_true]; exact h.2
theorem usc_pos (x hi lo s : Nat) (hx : 9223372036854775808 <= x) (hhi : 9223372036854775808 <= hi) (hs : s <= 58) : 1 <= uscaleN x hi lo s := by
 have h1 : 4611686018427387904 <= x * hi / 18446744073709551616 := by
  rw [Nat.le_div_iff_mul_le (by omega)]
  exact Nat.le_trans (by decide) (Nat.mul_le_mul hx hhi)
 have h2 : 2 ^ s <= 2 ^ 58 := Nat.pow_le_pow_right (by decide) hs
 have key : ∀ t, 4611686018427387903 <= t -> 2 <= t / 2 ^ s := by
  intro t ht
  rw [Nat.le_div_iff_mul_le (Nat.two_pow_pos s)]
  omega
 unfold uscaleN
 generalize x * hi / 18446744073709551616 = top at h1 ⊢
 have k1 := key top (by omega)
 have k2 := key (top - 1) (by omega)
 have k3 := key (top - 0) (by omega)
 simp only []
 repeat' split
 all_goals omega
theorem usc_lt (x hi lo s : Nat) (hx : x < 18446744073709551616) (hhi : hi < 18446744073709551616) (hs : 4 <= s) : uscaleN x hi lo s < 1152921504606846976 := by
 have hl1 : x * hi / 18446744073709551616 < 18446744073709551616 := by
  rw [Nat.div_lt_iff_lt_mul (by omega)]; exact Nat.mul_lt_mul'' hx hhi
 have key : ∀ t, t < 18446744073709551616 -> t / 2 ^ s < 1152921504606846976 := by
  intro t ht
  rw [Nat.div_lt_iff_lt_mul (Nat.two_pow_pos s)]
  have : 2 ^ 4 <= 2 ^ s := Nat.pow_le_pow_right (by omega) hs
  omega
 unfold uscaleN
 generalize x * hi / 18446744073709551616 = top at hl1 ⊢
 have k1 := key top hl1
 have k2 := key (top - 1) (by omega)
 have k3 : (top - 0) / 2 ^ s < 1152921504606846976 := k1
 simp only []
 repeat' split
 all_goals omega
theorem bits_and1_i64 (a : Nat) (ha : a < 9223372036854775808) : bits .and .i64 (a : Int) 1 = ((a % 2 : Nat) : Int) := by
 have key : (BitVec.ofInt 64 (a : Int) &&& BitVec.ofInt 64 (1 : Int)).toNat = a % 2 := by
  rw [BitVec.toNat_and, ofInt_nat64 a (by omega), show (1 : Int) = ((1 : Nat) : Int) from rfl, ofInt_nat64 1 (by omega), Nat.and_one_is_mod]
 refine (congrArg (fun n : Nat => IntKind.i64.wrap (n : Int)) key).trans ?_
 exact IntWalk.i64_in _ (by constructor <;> omega)
theorem lohi (m z : Nat) (hz1 : 1 <= z) (hz2 : z <= 63) (hm2 : m < 18446744073709551616) (h : m % 2 ^ z = 0) : m + 2 ^ z <= 18446744073709551616 /\ 2 ^ z = 2 * 2 ^ (z - 1) /\ 2 ^ (z - 1) <= 4611686018427387904 /\ 1 <= 2 ^ (z - 1) := by
 have h1 : 2 ^ z = 2 * 2 ^ (z - 1) := by
  conv => lhs; rw [show z = (z - 1) + 1 from by omega, Nat.pow_succ]
  omega
 have h2 : 2 ^ (z - 1) <= 2 ^ 62 := Nat.pow_le_pow_right (by decide) (by omega)
 have h3 : 2 ^ 64 = 2 ^ (64 - z) * 2 ^ z := by rw [<- Nat.pow_add]; congr 1; omega
 have h5 : m = m / 2 ^ z * 2 ^ z := by have := Nat.div_add_mod m (2 ^ z); rw [h, Nat.mul_comm] at this; omega
 have h4 : m / 2 ^ z < 2 ^ (64 - z) := by
  rw [Nat.div_lt_iff_lt_mul (Nat.two_pow_pos z), <- h3]; exact hm2
 have h6 : (m / 2 ^ z + 1) * 2 ^ z <= 2 ^ (64 - z) * 2 ^ z := Nat.mul_le_mul_right _ h4
 rw [<- h3, Nat.add_mul, <- h5] at h6
 exact ⟨by omega, h1, h2, Nat.one_le_two_pow⟩
theorem ret2 {a b c d : Int} (h1 : a = b) (h2 : c = d) : Ending.returned (.tuple #[.int .u64 a, .int .i64 c]) = .returned (.tuple #[.int .u64 b, .int .i64 d]) := by rw [h1, h2]
theorem shortFloat_any (m : Nat) (e : Int) (w : World) (hw : Pow w) (hm1 : 9223372036854775808 <= m) (hm2 : m < 18446744073709551616) (hmz : m % 2 ^ zOf e = 0) (h1 : -1137 <= e) (h2 : e <= 960) :
  Calls Tryz.prog 105 #[.int .u64 m, .int .i64 e] w (ShortPost m e w) := by
 obtain ⟨hp1, hp2, hs1, hs2⟩ := sp_ok m e h1 h2
 have hsk := fun w => skewed_any (e + 11) w (by omega) (by omega)
 have hl11 := fun w => log10Pow2_any (e + 11) w (by omega) (by omega)
 obtain ⟨q, hq⟩ : ∃ q, q = -pOf m e := ⟨_, rfl⟩
 obtain ⟨mn, hmn⟩ : ∃ x, x = loOf m e := ⟨_, rfl⟩
 obtain ⟨mx, hmx⟩ : ∃ x, x = hiOf m e := ⟨_, rfl⟩
 obtain ⟨od, hod⟩ : ∃ x, x = oddOf m e := ⟨_, rfl⟩
 have HP := Lib.hid (And.intro hp1 (And.intro hp2 (And.intro hs1 (And.intro hs2 (And.intro hmz hw)))))
 have HV := Lib.hid (And.intro hq (And.intro hmn (And.intro hmx hod)))
 clear hp1 hp2 hs1 hs2 hw
 have hq1 : -347 <= q := by have := HP.out; omega
 have hq2 : q <= 348 := by have := HP.out; omega
 obtain ⟨sn, hsn⟩ : ∃ sn : Nat, (sn : Int) = sOf e (pOf m e) := ⟨(sOf e (pOf m e)).toNat, by have := HP.out; omega⟩
 obtain ⟨lp, hlp⟩ : ∃ lp, lp = (-q) * 108853 / 32768 := ⟨_, rfl⟩
 have hpq : pOf m e = -q := by rw [hq]; omega
 have hsn2 : -(e + lp + 3) = (sn : Int) := by rw [hsn, hpq, hlp]; rfl
 have hsn4 : 4 <= sn /\ sn <= 58 := by have := HP.out; omega
 have hrow := row_at (-q) (by have := HP.out; omega) (by have := HP.out; omega)
 have hod1 : od = 0 \/ od = 1 := by rw [hod]; unfold oddOf; omega
 have hl2 := fun w => log2Pow10_any (-q) w (by have := HP.out; omega) (by have := HP.out; omega)
 rw [<- hlp] at hl2
 have hlpb : -1200 <= lp /\ lp <= 1200 := by have := HP.out; omega
 have hpre := fun x y z => prescale_any w x y z e (-q) lp HP.out.2.2.2.2.2 (by have := HP.out; omega) (by have := HP.out; omega) (by omega) (by omega) (by omega) (by omega)
 rw [hsn2] at hpre
 obtain ⟨wS, hwS⟩ : ∃ wS, wS = w.alloc (Obj.cells #[.int .u64 (hiAt (-q) : Nat), .int .u64 (loAt (-q) : Nat), .int .i64 (sn : Int)] 192) := ⟨_, rfl⟩
 have huse : ∀ x, usc m e x = uscaleN x (hiAt (-q)) (loAt (-q)) sn := by intro x; unfold usc; rw [hpq, show (sOf e (-q)).toNat = sn from by rw [<- hpq, <- hsn]; rfl]
 have hus : ∀ (x n : Nat), 4611686018427387904 <= x -> x < 18446744073709551616 -> Calls Tryz.prog 118 #[.int .u64 x, .pointer (some ⟨w.heap.size, 0, none⟩)] (wS.drewN n) fun e' w' => e' = .returned (.int .u64 (usc m e x : Nat)) /\ ∃ k, w' = wS.drewN k := by
  intro x n hx1 hx2
  rw [huse x]
  refine (uscale_any (wS.drewN n) w.heap.size x (hiAt (-q)) (loAt (-q)) sn hx2 hrow.2.1 hrow.2.2 (by omega) (Nat.le_trans (by decide) (Nat.mul_le_mul hx1 hrow.1)) (by rw [hwS]; exact Joins.cell_alloc_mark_at w _ _ _ _ 0 rfl) (by rw [hwS]; exact Joins.cell_alloc_mark_at w _ _ _ _ 1 rfl) (by rw [hwS]; exact Joins.cell_alloc_mark_at w _ _ _ _ 2 rfl)).mono ?_
  rintro e' w' ⟨h1, k, rfl⟩
  exact ⟨h1, n + k, by rw [World.drewN_drewN]⟩
 have hub : ∀ x, 9223372036854775808 <= x -> x < 18446744073709551616 -> 1 <= usc m e x /\ usc m e x < 1152921504606846976 := by
  intro x hx1 hx2; rw [huse x]; exact ⟨usc_pos _ _ _ _ hx1 hrow.1 hsn4.2, usc_lt _ _ _ _ hx2 hrow.2.1 hsn4.1⟩
 have hub2 : ∀ x, x < 18446744073709551616 -> usc m e x < 1152921504606846976 := by
  intro x hx2; rw [huse x]; exact usc_lt _ _ _ _ hx2 hrow.2.1 hsn4.1
 have hzb : 11 <= zOf e /\ zOf e <= 63 := by unfold zOf; omega
 obtain ⟨lh1, lh2, lh3, lh4⟩ := lohi m (zOf e) (by omega) hzb.2 hm2 hmz
 have hmnb : 4611686018427387904 <= mn /\ mn < 18446744073709551616 := by
  rw [hmn]; unfold loOf; split <;> omega
 have hmxb : 9223372036854775808 <= mx /\ mx < 18446744073709551616 := by
  rw [hmx]; unfold hiOf; omega
 have hfin : ∀ (dmin dmax : Nat), dmin = (usc m e mn + od + 3) / 4 -> dmax = (usc m e mx - od) / 4 -> dmin = dminOf m e /\ dmax = dmaxOf m e := by
  intro dmin dmax h1 h2
  rw [hmn, hod] at h1
  rw [hmx, hod] at h2
  exact ⟨h1, h2⟩
 have HT := Lib.hid (And.intro hl2 (And.intro hpre (And.intro hwS (And.intro hus (And.intro hub (And.intro hub2 (And.intro hmnb (And.intro hmxb (And.intro hfin (And.intro hpq hod1))))))))))
 clear hq hmn hmx hod hmz hsn hlp hpq hsn2 hsn4 hrow hod1 hl2 hlpb hpre hwS huse hus hub hub2 hmnb hmxb hfin lh1 lh2 lh3 lh4 hzb
 obtain ⟨hz1, hz2, hz3⟩ : zOf e <= 63 /\ 11 <= zOf e /\ (e < -1085 -> (zOf e : Int) = -1074 - e) := by unfold zOf; omega
 by_cases hlow : e < -1085
 ·have hzz := hz3 hlow
  have hskq : skq m e = false := by unfold skq; simp; omega
  have hcall : ∀ (x : Int), x = -1074 -> ∀ w, Calls Tryz.prog 100 #[.int .i64 x] w fun e w' => e = .returned (.int .i64 q) /\ w = w' := fun x hx w => by
   have h := log10Pow2_any x w (by omega) (by omega)
   rw [show x * 78913 / 262144 = q by rw [hx, HV.out.1]; unfold pOf; rw [hskq, hzz, show e + (-1074 - e) = -1074 from by omega]; simp] at h
   exact h
  have hmn1 := HV.out.2.1
  unfold loOf at hmn1
  rw [hskq] at hmn1
  simp only [Bool.false_eq_true, if_false] at hmn1
  have hmx1 := HV.out.2.2.1
  unfold hiOf at hmx1
  have hod1 := HV.out.2.2.2
  unfold oddOf at hod1
  have hmz := HP.out.2.2.2.2.1
  have hpz : 2 ^ zOf e <= 2 ^ 63 := Nat.pow_le_pow_right (by decide) hz1
  have hpz2 : 2 * 2 ^ (zOf e - 1) = 2 ^ zOf e := by rw [<- Nat.pow_succ']; congr 1; omega
  have hmle : m + 2 ^ zOf e <= 18446744073709551616 := by
   have hd1 : 2 ^ zOf e ∣ m := Nat.dvd_of_mod_eq_zero hmz
   have hd2 : 2 ^ zOf e ∣ 18446744073709551616 := by rw [show 18446744073709551616 = 2 ^ 64 from rfl]; exact Nat.pow_dvd_pow 2 (by omega)
   have := Nat.le_of_dvd (by omega) (Nat.dvd_sub hd2 hd1)
   omega
  have HE : Hid (IntKind.u64.wrap (↑m - IntKind.u64.wrap (2 ^ ((11 + (-1085 - e)).toNat - 1))) = (mn : Int) /\ IntKind.u64.wrap (↑m + IntKind.u64.wrap (2 ^ ((11 + (-1085 - e)).toNat - 1))) = (mx : Int) /\ bits BinOp.and IntKind.i64 (wrap64 (↑m / 2 ^ (11 + (-1085 - e)).toNat)) 1 = (od : Int)) := by
   have e1 : (11 + (-1085 - e)).toNat = zOf e := by omega
   rw [e1]
   have e2 : ((2 : Int) ^ (zOf e - 1)) = ((2 ^ (zOf e - 1) : Nat) : Int) := by rw [Int.natCast_pow]; rfl
   have e3 : ((m : Int) / 2 ^ zOf e) = ((m / 2 ^ zOf e : Nat) : Int) := shr_cast m (zOf e)
   rw [e2, e3]
   have hp1 : 1 <= 2 ^ (zOf e - 1) := Nat.two_pow_pos _
   have hdv : m / 2 ^ zOf e <= 9007199254740992 := by
    rw [<- Nat.lt_succ_iff, Nat.div_lt_iff_lt_mul (Nat.two_pow_pos _)]
    have : 2 ^ 11 <= 2 ^ zOf e := Nat.pow_le_pow_right (by decide) hz2
    omega
   generalize 2 ^ (zOf e - 1) = P at *
   generalize 2 ^ zOf e = P2 at *
   have e4 : IntKind.u64.wrap (P : Int) = P := IntWalk.u64_in _ (by constructor <;> omega)
   rw [e4]
   refine ⟨?_, ?_, ?_⟩
   ·rw [IntWalk.u64_in _ (by constructor <;> omega)]; omega
   ·rw [IntWalk.u64_in _ (by constructor <;> omega)]; omega
   ·generalize m / P2 = dv at *
    rw [IntWalk.wrap64_in _ (by constructor <;> omega), bits_and1_i64 _ (by omega), hod1]
  have HC := Lib.hid (And.intro hcall hzz)
  have b3 : decide (-1085 <= e) = false := decide_eq_false (by omega)
  have b2 : decide (-1085 < e) = false := decide_eq_false (by omega)
  clear hcall hmn1 hmx1 hod1 hskq hzz hz3 hmz hpz hpz2 hmle hz1 hz2
  by_cases hm63 : m = 9223372036854775808
  ·have b1 : ((m : Int) == 9223372036854775808) = true := by rw [beq_iff_eq]; omega
   clear hm63
   go_enter Tryz.func105, Tryz.ntmps105
   go_wp2_with (go_at_call 100; refine (HC.out.1 _ (by omega) _).mono ?_; rintro e' w' ⟨rfl, rfl⟩; refine Hid.out ?_)
   refine Lib.hid ?_
   go_upto_region 27 with fail
   rw [HE.out.1, HE.out.2.1, HE.out.2.2]
   obtain ⟨hl2, hpre, hwS, hus, hub, hub2, hmnb, hmxb, hfin, hpq, hod1⟩ := HT.out
   have H2 := Lib.hid hl2
   have H3 := Lib.hid hpre
   clear hl2 hpre hwS hus hub hub2 hmnb hmxb hfin hpq hod1
   go_wp2_with fail
   refine (H2.out _).mono ?_
   rintro e' w' ⟨rfl, rfl⟩
   go_wp2_with fail
   refine (H3.out _ _ _).mono ?_
   rintro e' w' ⟨rfl, rfl⟩
   rw [<- HT.out.2.2.1]
   go_wp2_with fail
   obtain ⟨hus, hub, hub2, hmnb, hmxb, hfin, hpq, hod1⟩ := HT.out.2.2.2
   refine (show Calls Tryz.prog 118 #[.int .u64 mn, .pointer (some ⟨w.heap.size, 0, none⟩)] wS _ from hus mn 0 hmnb.1 hmnb.2).mono ?_
   rintro e' w' ⟨rfl, k1, rfl⟩
   have b1 := hub2 mn hmnb.2
   have b2 := hub mx hmxb.1 hmxb.2
   obtain ⟨u1, hu1⟩ : ∃ u, u = usc m e mn := ⟨_, rfl⟩
   obtain ⟨u2, hu2⟩ : ∃ u, u = usc m e mx := ⟨_, rfl⟩
   obtain ⟨dmin, hdmin⟩ : ∃ d, d = (usc m e mn + od + 3) / 4 := ⟨_, rfl⟩
   obtain ⟨dmax, hdmax⟩ : ∃ d, d = (usc m e mx - od) / 4 := ⟨_, rfl⟩
   have hfin2 := hfin dmin dmax hdmin hdmax
   rw [<- hu1] at b1 hdmin ⊢
   rw [<- hu2] at b2 hdmax
   have hn1 := fun w => nudge_any u1 od (u1 + od) w (by omega) (by omega) (by omega) (by omega) (by omega)
   have hc1 := fun w => ceil_any (u1 + od) w (by omega)
   rw [<- hdmin] at hc1
   have hn2 := fun w => nudge_any u2 (-(od : Int)) (u2 - od) w (by omega) (by omega) (by omega) (by omega) (by omega)
   have hf2 := fun w => floor_any (u2 - od) w (by omega)
   rw [<- hdmax] at hf2
   have hus2 := fun n => hus mx n (by omega) hmxb.2
   rw [<- hu2] at hus2
   have hr3 := fun w => round_any (usc m e m) w (by have := hub2 m hm2; omega)
   obtain ⟨u3, hu3⟩ : ∃ u, u = (usc m e m + 1 + usc m e m / 4 % 2) / 4 := ⟨_, rfl⟩
   rw [<- hu3] at hr3
   have hus3 := fun n => hus m n (by omega) hm2
   have hodb : od <= 1 := by omega
   have bdmin : dmin < 1152921504606846976 := by omega
   have bdmax : dmax < 1152921504606846976 := by omega
   have HQ := Lib.hid (And.intro hn1 (And.intro hc1 (And.intro hn2 (And.intro hf2 (And.intro hus2 (And.intro hr3 (And.intro hus3 (And.intro hfin2 (And.intro hu3 hpq)))))))))
   clear hn1 hc1 hn2 hf2 hus2 hr3 hus3 hfin2 hu3 hus hub hub2 hmnb hmxb hfin hpq hod1 hu1 hu2 hdmin hdmax b1 b2
   go_wp2_with fail
   refine (HQ.out.1 _).mono ?_
   rintro e' w' ⟨rfl, rfl⟩
   go_wp2_with fail
   refine (HQ.out.2.1 _).mono ?_
   rintro e' w' ⟨rfl, rfl⟩
   go_wp2_with fail
   refine (HQ.out.2.2.2.2.1 _).mono ?_
   rintro e' w' ⟨rfl, k2, rfl⟩
   go_wp2_with fail
   refine (HQ.out.2.2.1 _).mono ?_
   rintro e' w' ⟨rfl, rfl⟩
   go_wp2_with fail
   refine (HQ.out.2.2.2.1 _).mono ?_
   rintro e' w' ⟨rfl, rfl⟩
   have hbel : Hid (∀ n, Below w.heap.size w (wS.drewN n)) := by
    intro n; rw [HT.out.2.2.1]; exact ((Below.refl _ w).alloc (Nat.le_refl _) _).trans ⟨rfl, rfl, rfl, Nat.le_refl _, fun _ _ => rfl⟩
   by_cases hA : dmin <= dmax / 10 * 10
   ·go_wp2_with fail
    go_returns
    obtain ⟨e1, e2⟩ := HQ.out.2.2.2.2.2.2.2.1
    refine ⟨hbel.out _, ?_⟩
    unfold shortN
    rw [<- e1, <- e2, if_pos hA, HQ.out.2.2.2.2.2.2.2.2.2]
    exact ret2 (by omega) (by omega)
   ·by_cases hB : dmin < dmax
    ·go_wp2_with fail
     refine (HQ.out.2.2.2.2.2.2.1 _).mono ?_
     rintro e' w' ⟨rfl, k3, rfl⟩
     go_wp2_with fail
     refine (HQ.out.2.2.2.2.2.1 _).mono ?_
     rintro e' w' ⟨rfl, rfl⟩
     go_wp2_with fail
     go_returns
     obtain ⟨e1, e2⟩ := HQ.out.2.2.2.2.2.2.2.1
     refine ⟨hbel.out _, ?_⟩
     unfold shortN
     rw [<- e1, <- e2, if_neg hA, if_pos hB, HQ.out.2.2.2.2.2.2.2.2.2]
     exact ret2 (by rw [HQ.out.2.2.2.2.2.2.2.2.1]) (by omega)
    ·go_wp2_with fail
     go_returns
     obtain ⟨e1, e2⟩ := HQ.out.2.2.2.2.2.2.2.1
     refine ⟨hbel.out _, ?_⟩
     unfold shortN
     rw [<- e1, <- e2, if_neg hA, if_neg hB, HQ.out.2.2.2.2.2.2.2.2.2]
     exact ret2 rfl (by omega)
  ·have b1 : ((m : Int) == 9223372036854775808) = false := by rw [beq_eq_false_iff_ne]; omega
   clear hm63
   go_enter Tryz.func105, Tryz.ntmps105
   go_wp2_with (go_at_call 100; refine (HC.out.1 _ (by omega) _).mono ?_; rintro e' w' ⟨rfl, rfl⟩; refine Hid.out ?_)
   refine Lib.hid ?_
   go_upto_region 27 with fail
   rw [HE.out.1, HE.out.2.1, HE.out.2.2]
   obtain ⟨hl2, hpre, hwS, hus, hub, hub2, hmnb, hmxb, hfin, hpq, hod1⟩ := HT.out
   have H2 := Lib.hid hl2
   have H3 := Lib.hid hpre
   clear hl2 hpre hwS hus hub hub2 hmnb hmxb hfin hpq hod1
   go_wp2_with fail
   refine (H2.out _).mono ?_
   rintro e' w' ⟨rfl, rfl⟩
   go_wp2_with fail
   refine (H3.out _ _ _).mono ?_
   rintro e' w' ⟨rfl, rfl⟩
   rw [<- HT.out.2.2.1]
   go_wp2_with fail
   obtain ⟨hus, hub, hub2, hmnb, hmxb, hfin, hpq, hod1⟩ := HT.out.2.2.2
   refine (show Calls Tryz.prog 118 #[.int .u64 mn, .pointer (some ⟨w.heap.size, 0, none⟩)] wS _ from hus mn 0 hmnb.1 hmnb.2).mono ?_
   rintro e' w' ⟨rfl, k1, rfl⟩
   have b1 := hub2 mn hmnb.2
   have b2 := hub mx hmxb.1 hmxb.2
   obtain ⟨u1, hu1⟩ : ∃ u, u = usc m e mn := ⟨_, rfl⟩
   obtain ⟨u2, hu2⟩ : ∃ u, u = usc m e mx := ⟨_, rfl⟩
   obtain ⟨dmin, hdmin⟩ : ∃ d, d = (usc m e mn + od + 3) / 4 := ⟨_, rfl⟩
   obtain ⟨dmax, hdmax⟩ : ∃ d, d = (usc m e mx - od) / 4 := ⟨_, rfl⟩
   have hfin2 := hfin dmin dmax hdmin hdmax
   rw [<- hu1] at b1 hdmin ⊢
   rw [<- hu2] at b2 hdmax
   have hn1 := fun w => nudge_any u1 od (u1 + od) w (by omega) (by omega) (by omega) (by omega) (by omega)
   have hc1 := fun w => ceil_any (u1 + od) w (by omega)
   rw [<- hdmin] at hc1
   have hn2 := fun w => nudge_any u2 (-(od : Int)) (u2 - od) w (by omega) (by omega) (by omega) (by omega) (by omega)
   have hf2 := fun w => floor_any (u2 - od) w (by omega)
   rw [<- hdmax] at hf2
   have hus2 := fun n => hus mx n (by omega) hmxb.2
   rw [<- hu2] at hus2
   have hr3 := fun w => round_any (usc m e m) w (by have := hub2 m hm2; omega)
   obtain ⟨u3, hu3⟩ : ∃ u, u = (usc m e m + 1 + usc m e m / 4 % 2) / 4 := ⟨_, rfl⟩
   rw [<- hu3] at hr3
   have hus3 := fun n => hus m n (by omega) hm2
   have hodb : od <= 1 := by omega
   have bdmin : dmin < 1152921504606846976 := by omega
   have bdmax : dmax < 1152921504606846976 := by omega
   have HQ := Lib.hid (And.intro hn1 (And.intro hc1 (And.intro hn2 (And.intro hf2 (And.intro hus2 (And.intro hr3 (And.intro hus3 (And.intro hfin2 (And.intro hu3 hpq)))))))))
   clear hn1 hc1 hn2 hf2 hus2 hr3 hus3 hfin2 hu3 hus hub hub2 hmnb hmxb hfin hpq hod1 hu1 hu2 hdmin hdmax b1 b2
   go_wp2_with fail
   refine (HQ.out.1 _).mono ?_
   rintro e' w' ⟨rfl, rfl⟩
   go_wp2_with fail
   refine (HQ.out.2.1 _).mono ?_
   rintro e' w' ⟨rfl, rfl⟩
   go_wp2_with fail
   refine (HQ.out.2.2.2.2.1 _).mono ?_
   rintro e' w' ⟨rfl, k2, rfl⟩
   go_wp2_with fail
   refine (HQ.out.2.2.1 _).mono ?_
   rintro e' w' ⟨rfl, rfl⟩
   go_wp2_with fail
   refine (HQ.out.2.2.2.1 _).mono ?_
   rintro e' w' ⟨rfl, rfl⟩
   have hbel : Hid (∀ n, Below w.heap.size w (wS.drewN n)) := by
    intro n; rw [HT.out.2.2.1]; exact ((Below.refl _ w).alloc (Nat.le_refl _) _).trans ⟨rfl, rfl, rfl, Nat.le_refl _, fun _ _ => rfl⟩
   by_cases hA : dmin <= dmax / 10 * 10
   ·go_wp2_with fail
    go_returns
    obtain ⟨e1, e2⟩ := HQ.out.2.2.2.2.2.2.2.1
    refine ⟨hbel.out _, ?_⟩
    unfold shortN
    rw [<- e1, <- e2, if_pos hA, HQ.out.2.2.2.2.2.2.2.2.2]
    exact ret2 (by omega) (by omega)
   ·by_cases hB : dmin < dmax
    ·go_wp2_with fail
     refine (HQ.out.2.2.2.2.2.2.1 _).mono ?_
     rintro e' w' ⟨rfl, k3, rfl⟩
     go_wp2_with fail
     refine (HQ.out.2.2.2.2.2.1 _).mono ?_
     rintro e' w' ⟨rfl, rfl⟩
     go_wp2_with fail
     go_returns
     obtain ⟨e1, e2⟩ := HQ.out.2.2.2.2.2.2.2.1
     refine ⟨hbel.out _, ?_⟩
     unfold shortN
     rw [<- e1, <- e2, if_neg hA, if_pos hB, HQ.out.2.2.2.2.2.2.2.2.2]
     exact ret2 (by rw [HQ.out.2.2.2.2.2.2.2.2.1]) (by omega)
    ·go_wp2_with fail
     go_returns
     obtain ⟨e1, e2⟩ := HQ.out.2.2.2.2.2.2.2.1
     refine ⟨hbel.out _, ?_⟩
     unfold shortN
     rw [<- e1, <- e2, if_neg hA, if_neg hB, HQ.out.2.2.2.2.2.2.2.2.2]
     exact ret2 rfl (by omega)
 ·have hz : zOf e = 11 := by unfold zOf; omega
  have hmz := HP.out.2.2.2.2.1
  rw [hz] at hmz
  have hmx2 : m + 1024 < 18446744073709551616 := by omega
  have hmx1 := HV.out.2.2.1
  unfold hiOf at hmx1
  rw [hz] at hmx1
  have hod1 := HV.out.2.2.2
  unfold oddOf at hod1
  rw [hz] at hod1
  have hb1 := bits_and1_i64 (m / 2048) (by omega)
  have H1 : Hid ((m : Int) + 1024 = (mx : Int) /\ bits BinOp.and IntKind.i64 ((m : Int) / 2048) 1 = (od : Int)) := by
   refine ⟨by omega, ?_⟩
   rw [show ((m : Int) / 2048) = ((m / 2048 : Nat) : Int) from by omega, hb1, hod1]
  have HZ := Lib.hid hz
  clear hmx1 hod1 hb1 hmz hz hz1 hz2 hz3
  by_cases hsk : m = 9223372036854775808 /\ -1085 < e
  ·have b1 : ((m : Int) == 9223372036854775808) = true := by rw [beq_iff_eq]; omega
   have b2 : decide (-1085 < e) = true := decide_eq_true hsk.2
   have hskq : skq m e = true := by unfold skq; simp; omega
   have hcall := fun w => skewed_any (e + 11) w (by omega) (by omega)
   rw [show ((e + 11) * 631305 - 261663) / 2097152 = q by rw [HV.out.1]; unfold pOf; rw [hskq]; simp] at hcall
   have hmn1 := HV.out.2.1
   unfold loOf at hmn1
   rw [hskq] at hmn1
   simp only [if_true] at hmn1
   have HC : Hid ((∀ w, _) /\ (m : Int) - 512 = (mn : Int)) := ⟨hcall, by omega⟩
   clear hsk hcall hmn1 hskq
   go_enter Tryz.func105, Tryz.ntmps105
   go_wp2_with (go_at_call 115; refine (HC.out.1 _).mono ?_; rintro e' w' ⟨rfl, rfl⟩; refine Hid.out ?_)
   refine Lib.hid ?_
   go_upto_region 27 with fail
   rw [HC.out.2, H1.out.1, H1.out.2]
   obtain ⟨hl2, hpre, hwS, hus, hub, hub2, hmnb, hmxb, hfin, hpq, hod1⟩ := HT.out
   have H2 := Lib.hid hl2
   have H3 := Lib.hid hpre
   clear hl2 hpre hwS hus hub hub2 hmnb hmxb hfin hpq hod1
   go_wp2_with fail
   refine (H2.out _).mono ?_
   rintro e' w' ⟨rfl, rfl⟩
   go_wp2_with fail
   refine (H3.out _ _ _).mono ?_
   rintro e' w' ⟨rfl, rfl⟩
   rw [<- HT.out.2.2.1]
   go_wp2_with fail
   obtain ⟨hus, hub, hub2, hmnb, hmxb, hfin, hpq, hod1⟩ := HT.out.2.2.2
   refine (show Calls Tryz.prog 118 #[.int .u64 mn, .pointer (some ⟨w.heap.size, 0, none⟩)] wS _ from hus mn 0 hmnb.1 hmnb.2).mono ?_
   rintro e' w' ⟨rfl, k1, rfl⟩
   have b1 := hub2 mn hmnb.2
   have b2 := hub mx hmxb.1 hmxb.2
   obtain ⟨u1, hu1⟩ : ∃ u, u = usc m e mn := ⟨_, rfl⟩
   obtain ⟨u2, hu2⟩ : ∃ u, u = usc m e mx := ⟨_, rfl⟩
   obtain ⟨dmin, hdmin⟩ : ∃ d, d = (usc m e mn + od + 3) / 4 := ⟨_, rfl⟩
   obtain ⟨dmax, hdmax⟩ : ∃ d, d = (usc m e mx - od) / 4 := ⟨_, rfl⟩
   have hfin2 := hfin dmin dmax hdmin hdmax
   rw [<- hu1] at b1 hdmin ⊢
   rw [<- hu2] at b2 hdmax
   have hn1 := fun w => nudge_any u1 od (u1 + od) w (by omega) (by omega) (by omega) (by omega) (by omega)
   have hc1 := fun w => ceil_any (u1 + od) w (by omega)
   rw [<- hdmin] at hc1
   have hn2 := fun w => nudge_any u2 (-(od : Int)) (u2 - od) w (by omega) (by omega) (by omega) (by omega) (by omega)
   have hf2 := fun w => floor_any (u2 - od) w (by omega)
   rw [<- hdmax] at hf2
   have hus2 := fun n => hus mx n (by omega) hmxb.2
   rw [<- hu2] at hus2
   have hr3 := fun w => round_any (usc m e m) w (by have := hub2 m hm2; omega)
   obtain ⟨u3, hu3⟩ : ∃ u, u = (usc m e m + 1 + usc m e m / 4 % 2) / 4 := ⟨_, rfl⟩
   rw [<- hu3] at hr3
   have hus3 := fun n => hus m n (by omega) hm2
   have hodb : od <= 1 := by omega
   have bdmin : dmin < 1152921504606846976 := by omega
   have bdmax : dmax < 1152921504606846976 := by omega
   have HQ := Lib.hid (And.intro hn1 (And.intro hc1 (And.intro hn2 (And.intro hf2 (And.intro hus2 (And.intro hr3 (And.intro hus3 (And.intro hfin2 (And.intro hu3 hpq)))))))))
   clear hn1 hc1 hn2 hf2 hus2 hr3 hus3 hfin2 hu3 hus hub hub2 hmnb hmxb hfin hpq hod1 hu1 hu2 hdmin hdmax b1 b2
   go_wp2_with fail
   refine (HQ.out.1 _).mono ?_
   rintro e' w' ⟨rfl, rfl⟩
   go_wp2_with fail
   refine (HQ.out.2.1 _).mono ?_
   rintro e' w' ⟨rfl, rfl⟩
   go_wp2_with fail
   refine (HQ.out.2.2.2.2.1 _).mono ?_
   rintro e' w' ⟨rfl, k2, rfl⟩
   go_wp2_with fail
   refine (HQ.out.2.2.1 _).mono ?_
   rintro e' w' ⟨rfl, rfl⟩
   go_wp2_with fail
   refine (HQ.out.2.2.2.1 _).mono ?_
   rintro e' w' ⟨rfl, rfl⟩
   have hbel : Hid (∀ n, Below w.heap.size w (wS.drewN n)) := by
    intro n; rw [HT.out.2.2.1]; exact ((Below.refl _ w).alloc (Nat.le_refl _) _).trans ⟨rfl, rfl, rfl, Nat.le_refl _, fun _ _ => rfl⟩
   by_cases hA : dmin <= dmax / 10 * 10
   ·go_wp2_with fail
    go_returns
    obtain ⟨e1, e2⟩ := HQ.out.2.2.2.2.2.2.2.1
    refine ⟨hbel.out _, ?_⟩
    unfold shortN
    rw [<- e1, <- e2, if_pos hA, HQ.out.2.2.2.2.2.2.2.2.2]
    exact ret2 (by omega) (by omega)
   ·by_cases hB : dmin < dmax
    ·go_wp2_with fail
     refine (HQ.out.2.2.2.2.2.2.1 _).mono ?_
     rintro e' w' ⟨rfl, k3, rfl⟩
     go_wp2_with fail
     refine (HQ.out.2.2.2.2.2.1 _).mono ?_
     rintro e' w' ⟨rfl, rfl⟩
     go_wp2_with fail
     go_returns
     obtain ⟨e1, e2⟩ := HQ.out.2.2.2.2.2.2.2.1
     refine ⟨hbel.out _, ?_⟩
     unfold shortN
     rw [<- e1, <- e2, if_neg hA, if_pos hB, HQ.out.2.2.2.2.2.2.2.2.2]
     exact ret2 (by rw [HQ.out.2.2.2.2.2.2.2.2.1]) (by omega)
    ·go_wp2_with fail
     go_returns
     obtain ⟨e1, e2⟩ := HQ.out.2.2.2.2.2.2.2.1
     refine ⟨hbel.out _, ?_⟩
     unfold shortN
     rw [<- e1, <- e2, if_neg hA, if_neg hB, HQ.out.2.2.2.2.2.2.2.2.2]
     exact ret2 rfl (by omega)
  ·have hskq : skq m e = false := by unfold skq; simp; omega
   have hcall := fun w => log10Pow2_any (e + 11) w (by omega) (by omega)
   rw [show (e + 11) * 78913 / 262144 = q by rw [HV.out.1]; unfold pOf; rw [hskq, HZ.out]; simp] at hcall
   have hmn1 := HV.out.2.1
   unfold loOf at hmn1
   rw [hskq, HZ.out] at hmn1
   simp only [Bool.false_eq_true, if_false] at hmn1
   have HC : Hid ((∀ w, _) /\ (m : Int) - 1024 = (mn : Int)) := ⟨hcall, by omega⟩
   clear hcall hmn1 hskq
   by_cases hm63 : m = 9223372036854775808
   ·have b1 : ((m : Int) == 9223372036854775808) = true := by rw [beq_iff_eq]; omega
    have b2 : decide (-1085 < e) = false := decide_eq_false (by omega)
    clear hsk hm63
    go_enter Tryz.func105, Tryz.ntmps105
    go_wp2_with (go_at_call 100; refine (HC.out.1 _).mono ?_; rintro e' w' ⟨rfl, rfl⟩; refine Hid.out ?_)
    refine Lib.hid ?_
    go_upto_region 27 with fail
    rw [HC.out.2, H1.out.1, H1.out.2]
    obtain ⟨hl2, hpre, hwS, hus, hub, hub2, hmnb, hmxb, hfin, hpq, hod1⟩ := HT.out
    have H2 := Lib.hid hl2
    have H3 := Lib.hid hpre
    clear hl2 hpre hwS hus hub hub2 hmnb hmxb hfin hpq hod1
    go_wp2_with fail
    refine (H2.out _).mono ?_
    rintro e' w' ⟨rfl, rfl⟩
    go_wp2_with fail
    refine (H3.out _ _ _).mono ?_
    rintro e' w' ⟨rfl, rfl⟩
    rw [<- HT.out.2.2.1]
    go_wp2_with fail
    obtain ⟨hus, hub, hub2, hmnb, hmxb, hfin, hpq, hod1⟩ := HT.out.2.2.2
    refine (show Calls Tryz.prog 118 #[.int .u64 mn, .pointer (some ⟨w.heap.size, 0, none⟩)] wS _ from hus mn 0 hmnb.1 hmnb.2).mono ?_
    rintro e' w' ⟨rfl, k1, rfl⟩
    have b1 := hub2 mn hmnb.2
    have b2 := hub mx hmxb.1 hmxb.2
    obtain ⟨u1, hu1⟩ : ∃ u, u = usc m e mn := ⟨_, rfl⟩
    obtain ⟨u2, hu2⟩ : ∃ u, u = usc m e mx := ⟨_, rfl⟩
    obtain ⟨dmin, hdmin⟩ : ∃ d, d = (usc m e mn + od + 3) / 4 := ⟨_, rfl⟩
    obtain ⟨dmax, hdmax⟩ : ∃ d, d = (usc m e mx - od) / 4 := ⟨_, rfl⟩
    have hfin2 := hfin dmin dmax hdmin hdmax
    rw [<- hu1] at b1 hdmin ⊢
    rw [<- hu2] at b2 hdmax
    have hn1 := fun w => nudge_any u1 od (u1 + od) w (by omega) (by omega) (by omega) (by omega) (by omega)
    have hc1 := fun w => ceil_any (u1 + od) w (by omega)
    rw [<- hdmin] at hc1
    have hn2 := fun w => nudge_any u2 (-(od : Int)) (u2 - od) w (by omega) (by omega) (by omega) (by omega) (by omega)
    have hf2 := fun w => floor_any (u2 - od) w (by omega)
    rw [<- hdmax] at hf2
    have hus2 := fun n => hus mx n (by omega) hmxb.2
    rw [<- hu2] at hus2
    have hr3 := fun w => round_any (usc m e m) w (by have := hub2 m hm2; omega)
    obtain ⟨u3, hu3⟩ : ∃ u, u = (usc m e m + 1 + usc m e m / 4 % 2) / 4 := ⟨_, rfl⟩
    rw [<- hu3] at hr3
    have hus3 := fun n => hus m n (by omega) hm2
    have hodb : od <= 1 := by omega
    have bdmin : dmin < 1152921504606846976 := by omega
    have bdmax : dmax < 1152921504606846976 := by omega
    have HQ := Lib.hid (And.intro hn1 (And.intro hc1 (And.intro hn2 (And.intro hf2 (And.intro hus2 (And.intro hr3 (And.intro hus3 (And.intro hfin2 (And.intro hu3 hpq)))))))))
    clear hn1 hc1 hn2 hf2 hus2 hr3 hus3 hfin2 hu3 hus hub hub2 hmnb hmxb hfin hpq hod1 hu1 hu2 hdmin hdmax b1 b2
    go_wp2_with fail
    refine (HQ.out.1 _).mono ?_
    rintro e' w' ⟨rfl, rfl⟩
    go_wp2_with fail
    refine (HQ.out.2.1 _).mono ?_
    rintro e' w' ⟨rfl, rfl⟩
    go_wp2_with fail
    refine (HQ.out.2.2.2.2.1 _).mono ?_
    rintro e' w' ⟨rfl, k2, rfl⟩
    go_wp2_with fail
    refine (HQ.out.2.2.1 _).mono ?_
    rintro e' w' ⟨rfl, rfl⟩
    go_wp2_with fail
    refine (HQ.out.2.2.2.1 _).mono ?_
    rintro e' w' ⟨rfl, rfl⟩
    have hbel : Hid (∀ n, Below w.heap.size w (wS.drewN n)) := by
     intro n; rw [HT.out.2.2.1]; exact ((Below.refl _ w).alloc (Nat.le_refl _) _).trans ⟨rfl, rfl, rfl, Nat.le_refl _, fun _ _ => rfl⟩
    by_cases hA : dmin <= dmax / 10 * 10
    ·go_wp2_with fail
     go_returns
     obtain ⟨e1, e2⟩ := HQ.out.2.2.2.2.2.2.2.1
     refine ⟨hbel.out _, ?_⟩
     unfold shortN
     rw [<- e1, <- e2, if_pos hA, HQ.out.2.2.2.2.2.2.2.2.2]
     exact ret2 (by omega) (by omega)
    ·by_cases hB : dmin < dmax
     ·go_wp2_with fail
      refine (HQ.out.2.2.2.2.2.2.1 _).mono ?_
      rintro e' w' ⟨rfl, k3, rfl⟩
      go_wp2_with fail
      refine (HQ.out.2.2.2.2.2.1 _).mono ?_
      rintro e' w' ⟨rfl, rfl⟩
      go_wp2_with fail
      go_returns
      obtain ⟨e1, e2⟩ := HQ.out.2.2.2.2.2.2.2.1
      refine ⟨hbel.out _, ?_⟩
      unfold shortN
      rw [<- e1, <- e2, if_neg hA, if_pos hB, HQ.out.2.2.2.2.2.2.2.2.2]
      exact ret2 (by rw [HQ.out.2.2.2.2.2.2.2.2.1]) (by omega)
     ·go_wp2_with fail
      go_returns
      obtain ⟨e1, e2⟩ := HQ.out.2.2.2.2.2.2.2.1
      refine ⟨hbel.out _, ?_⟩
      unfold shortN
      rw [<- e1, <- e2, if_neg hA, if_neg hB, HQ.out.2.2.2.2.2.2.2.2.2]
      exact ret2 rfl (by omega)
   ·have b1 : ((m : Int) == 9223372036854775808) = false := by rw [beq_eq_false_iff_ne]; omega
    clear hsk hm63
    go_enter Tryz.func105, Tryz.ntmps105
    go_wp2_with (go_at_call 100; refine (HC.out.1 _).mono ?_; rintro e' w' ⟨rfl, rfl⟩; refine Hid.out ?_)
    refine Lib.hid ?_
    go_upto_region 27 with fail
    rw [HC.out.2, H1.out.1, H1.out.2]
    obtain ⟨hl2, hpre, hwS, hus, hub, hub2, hmnb, hmxb, hfin, hpq, hod1⟩ := HT.out
    have H2 := Lib.hid hl2
    have H3 := Lib.hid hpre
    clear hl2 hpre hwS hus hub hub2 hmnb hmxb hfin hpq hod1
    go_wp2_with fail
    refine (H2.out _).mono ?_
    rintro e' w' ⟨rfl, rfl⟩
    go_wp2_with fail
    refine (H3.out _ _ _).mono ?_
    rintro e' w' ⟨rfl, rfl⟩
    rw [<- HT.out.2.2.1]
    go_wp2_with fail
    obtain ⟨hus, hub, hub2, hmnb, hmxb, hfin, hpq, hod1⟩ := HT.out.2.2.2
    refine (show Calls Tryz.prog 118 #[.int .u64 mn, .pointer (some ⟨w.heap.size, 0, none⟩)] wS _ from hus mn 0 hmnb.1 hmnb.2).mono ?_
    rintro e' w' ⟨rfl, k1, rfl⟩
    have b1 := hub2 mn hmnb.2
    have b2 := hub mx hmxb.1 hmxb.2
    obtain ⟨u1, hu1⟩ : ∃ u, u = usc m e mn := ⟨_, rfl⟩
    obtain ⟨u2, hu2⟩ : ∃ u, u = usc m e mx := ⟨_, rfl⟩
    obtain ⟨dmin, hdmin⟩ : ∃ d, d = (usc m e mn + od + 3) / 4 := ⟨_, rfl⟩
    obtain ⟨dmax, hdmax⟩ : ∃ d, d = (usc m e mx - od) / 4 := ⟨_, rfl⟩
    have hfin2 := hfin dmin dmax hdmin hdmax
    rw [<- hu1] at b1 hdmin ⊢
    rw [<- hu2] at b2 hdmax
    have hn1 := fun w => nudge_any u1 od (u1 + od) w (by omega) (by omega) (by omega) (by omega) (by omega)
    have hc1 := fun w => ceil_any (u1 + od) w (by omega)
    rw [<- hdmin] at hc1
    have hn2 := fun w => nudge_any u2 (-(od : Int)) (u2 - od) w (by omega) (by omega) (by omega) (by omega) (by omega)
    have hf2 := fun w => floor_any (u2 - od) w (by omega)
    rw [<- hdmax] at hf2
    have hus2 := fun n => hus mx n (by omega) hmxb.2
    rw [<- hu2] at hus2
    have hr3 := fun w => round_any (usc m e m) w (by have := hub2 m hm2; omega)
    obtain ⟨u3, hu3⟩ : ∃ u, u = (usc m e m + 1 + usc m e m / 4 % 2) / 4 := ⟨_, rfl⟩
    rw [<- hu3] at hr3
    have hus3 := fun n => hus m n (by omega) hm2
    have hodb : od <= 1 := by omega
    have bdmin : dmin < 1152921504606846976 := by omega
    have bdmax : dmax < 1152921504606846976 := by omega
    have HQ := Lib.hid (And.intro hn1 (And.intro hc1 (And.intro hn2 (And.intro hf2 (And.intro hus2 (And.intro hr3 (And.intro hus3 (And.intro hfin2 (And.intro hu3 hpq)))))))))
    clear hn1 hc1 hn2 hf2 hus2 hr3 hus3 hfin2 hu3 hus hub hub2 hmnb hmxb hfin hpq hod1 hu1 hu2 hdmin hdmax b1 b2
    go_wp2_with fail
    refine (HQ.out.1 _).mono ?_
    rintro e' w' ⟨rfl, rfl⟩
    go_wp2_with fail
    refine (HQ.out.2.1 _).mono ?_
    rintro e' w' ⟨rfl, rfl⟩
    go_wp2_with fail
    refine (HQ.out.2.2.2.2.1 _).mono ?_
    rintro e' w' ⟨rfl, k2, rfl⟩
    go_wp2_with fail
    refine (HQ.out.2.2.1 _).mono ?_
    rintro e' w' ⟨rfl, rfl⟩
    go_wp2_with fail
    refine (HQ.out.2.2.2.1 _).mono ?_
    rintro e' w' ⟨rfl, rfl⟩
    have hbel : Hid (∀ n, Below w.heap.size w (wS.drewN n)) := by
     intro n; rw [HT.out.2.2.1]; exact ((Below.refl _ w).alloc (Nat.le_refl _) _).trans ⟨rfl, rfl, rfl, Nat.le_refl _, fun _ _ => rfl⟩
    by_cases hA : dmin <= dmax / 10 * 10
    ·go_wp2_with fail
     go_returns
     obtain ⟨e1, e2⟩ := HQ.out.2.2.2.2.2.2.2.1
     refine ⟨hbel.out _, ?_⟩
     unfold shortN
     rw [<- e1, <- e2, if_pos hA, HQ.out.2.2.2.2.2.2.2.2.2]
     exact ret2 (by omega) (by omega)
    ·by_cases hB : dmin < dmax
     ·go_wp2_with fail
      refine (HQ.out.2.2.2.2.2.2.1 _).mono ?_
      rintro e' w' ⟨rfl, k3, rfl⟩
      go_wp2_with fail
      refine (HQ.out.2.2.2.2.2.1 _).mono ?_
      rintro e' w' ⟨rfl, rfl⟩
      go_wp2_with fail
      go_returns
      obtain ⟨e1, e2⟩ := HQ.out.2.2.2.2.2.2.2.1
      refine ⟨hbel.out _, ?_⟩
      unfold shortN
      rw [<- e1, <- e2, if_neg hA, if_pos hB, HQ.out.2.2.2.2.2.2.2.2.2]
      exact ret2 (by rw [HQ.out.2.2.2.2.2.2.2.2.1]) (by omega)
     ·go_wp2_with fail
      go_returns
      obtain ⟨e1, e2⟩ := HQ.out.2.2.2.2.2.2.2.1
      refine ⟨hbel.out _, ?_⟩
      unfold shortN
      rw [<- e1, <- e2, if_neg hA, if_neg hB, HQ.out.2.2.2.2.2.2.2.2.2]
      exact ret2 rfl (by omega)
end Go.Proofs.YtdfolbmoohcblaaGreatDoor
