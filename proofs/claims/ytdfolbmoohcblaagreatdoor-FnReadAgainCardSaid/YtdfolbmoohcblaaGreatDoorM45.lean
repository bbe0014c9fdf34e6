/-
For FnReadAgain, part 45: F3.
-/
import Derived.Test.YtdfolbmoohcblaaGreatDoorM37
import Derived.Test.YtdfolbmoohcblaaGreatDoorM25
set_option linter.all false
namespace Go.Proofs.YtdfolbmoohcblaaGreatDoor
theorem two_half (q : Int) : (2 : Rat) ^ (q - 1) * 2 = (2 : Rat) ^ q := by
 have : (2 : Rat) ^ (q - 1) * (2 : Rat) ^ (1 : Int) = (2 : Rat) ^ q := by rw [<- tz]; congr 1; omega
 simpa using this
theorem two_quart (q : Int) : (2 : Rat) ^ (q - 2) * 4 = (2 : Rat) ^ q := by
 have : (2 : Rat) ^ (q - 2) * (2 : Rat) ^ (2 : Int) = (2 : Rat) ^ q := by rw [<- tz]; congr 1; omega
 exact this
theorem in0_exact {k : Nat} {q : Int} {y : Rat} (k1 : 1 <= k) (k2 : k < 9007199254740992) (q1 : -1074 <= q) (q2 : q <= 971) (nm : 4503599627370496 <= k \/ q = -1074) (hy : y = (k : Rat) * (2 : Rat) ^ q) : In0 k q y := by
 have e1 := two_half q
 have e2 := two_quart q
 have g1 := two_pos (q - 1)
 have g2 := two_pos (q - 2)
 have k1' : (1 : Rat) <= k := by exact_mod_cast k1
 refine ⟨k1, k2, q1, q2, nm, ?_, ?_, ?_, ?_, ?_⟩
 ·clear k2 q1 q2 nm; generalize (2 : Rat) ^ (q - 1) = G at *; generalize (2 : Rat) ^ (q - 2) = H at *; generalize (2 : Rat) ^ q = I at *; subst e1; subst hy; clear e2; grind
 ·clear k2 q1 q2 nm; generalize (2 : Rat) ^ (q - 1) = G at *; generalize (2 : Rat) ^ (q - 2) = H at *; generalize (2 : Rat) ^ q = I at *; subst e1; subst hy; clear e2; grind
 ·intro h; exfalso; clear k2 q1 q2 nm; generalize (2 : Rat) ^ (q - 1) = G at *; generalize (2 : Rat) ^ (q - 2) = H at *; generalize (2 : Rat) ^ q = I at *; subst e1; subst hy; clear e2; grind
 ·intro h; exfalso; clear k2 q1 q2 nm; generalize (2 : Rat) ^ (q - 1) = G at *; generalize (2 : Rat) ^ (q - 2) = H at *; generalize (2 : Rat) ^ q = I at *; subst e1; subst hy; clear e2; grind
 ·intro _ _; clear k2 q1 q2 nm; generalize (2 : Rat) ^ (q - 1) = G at *; generalize (2 : Rat) ^ (q - 2) = H at *; generalize (2 : Rat) ^ q = I at *; subst e2; subst hy; clear e1; grind
theorem whole_in0 (N : Nat) (h : N ≠ 0) (h2 : N < 9007199254740992) : ∃ (k : Nat) (q : Int), In0 k q N /\ (N : Rat) = (k : Rat) * (2 : Rat) ^ q /\ k ≠ 0 := by
 have l1 := Nat.log2_self_le h
 have l2 := Nat.lt_log2_self (n := N)
 have hL : N.log2 <= 52 := by
  rcases Nat.lt_or_ge 52 N.log2 with g | g
  ·have : 2 ^ 53 <= 2 ^ N.log2 := Nat.pow_le_pow_right (by decide) g
   omega
  ·exact g
 have e : (N : Rat) = ((N * 2 ^ (52 - N.log2) : Nat) : Rat) * (2 : Rat) ^ (-((52 - N.log2 : Nat) : Int)) := by
  have := zpn 2 (by decide) (-((52 - N.log2 : Nat) : Int))
  rw [show (- -((52 - N.log2 : Nat) : Int)).toNat = 52 - N.log2 from by omega, show (-((52 - N.log2 : Nat) : Int)).toNat = 0 from by omega, Rat.pow_zero] at this
  push_cast
  rw [Rat.mul_assoc, Rat.mul_comm ((2 : Rat) ^ (52 - N.log2)), this, Rat.mul_one]
 have k1 : 2 ^ 52 <= N * 2 ^ (52 - N.log2) := by
  have : 2 ^ 52 = 2 ^ N.log2 * 2 ^ (52 - N.log2) := by rw [<- Nat.pow_add]; congr 1; omega
  rw [this]; exact Nat.mul_le_mul_right _ l1
 have k2 : N * 2 ^ (52 - N.log2) < 2 ^ 53 := by
  have : 2 ^ 53 = 2 ^ (N.log2 + 1) * 2 ^ (52 - N.log2) := by rw [<- Nat.pow_add]; congr 1; omega
  rw [this]; exact Nat.mul_lt_mul_of_pos_right l2 (Nat.two_pow_pos _)
 exact ⟨_, _, in0_exact (by omega) k2 (by omega) (by omega) (.inl k1) e, e, by omega⟩
theorem word_neg (r : Nat) (h : r < 9223372036854775808) : Op.negFloat .f64 (Ieee.double.word false r) = Ieee.double.word true r := by
 have : Ieee.double.word false r = r := by unfold Ieee.Format.word; simp
 rw [this, neg_word r h]
theorem rung_lt {k : Nat} {q : Int} (k2 : k < 9007199254740992) (q2 : q <= 971) : rung k q < 9218868437227405312 := by unfold rung; omega
theorem exactF_in0 {k : Nat} {q : Int} {m : Nat} (h : In0 k q m) (hm : m ≠ 0) (neg : Bool) : exactF m neg = Ieee.double.word neg (rung k q) := by
 have h1 := nearest_at h false m 0 hm (by rw [Rat.zpow_zero, Rat.mul_one])
 have h2 := rung_lt (k := k) (q := q) h.k2 h.q2
 unfold exactF
 rw [ofInt_nearest, h1]
 cases neg
 ·simp only [Bool.false_eq_true, if_false]
 ·simp only [if_true]; exact word_neg _ (by omega)
theorem exactF_at (m : Nat) (neg : Bool) (hm : m ≠ 0) (hm2 : m < 9007199254740992) : ∃ (k : Nat) (q : Int), Ieee.double.read (exactF m neg) = .number neg k q /\ (m : Rat) = (k : Rat) * (2 : Rat) ^ q /\ k ≠ 0 := by
 obtain ⟨k, q, h, e, h0⟩ := whole_in0 m hm hm2
 exact ⟨k, q, by rw [exactF_in0 h hm]; exact read_word neg k q h.k2 h.q1 h.q2 h.nm, e, h0⟩
def p10Ok (i : Nat) : Bool := match Ieee.double.read (p10 i) with | .number false n j => n != 0 && decide (n < 9007199254740992 /\ -1074 <= j /\ j <= 100) && Nat.beq (n * 2 ^ j.toNat) (10 ^ i * 2 ^ (-j).toNat) | _ => false
theorem p10_all : (List.range 23).all p10Ok = true := by decide +kernel
theorem p10_at (i : Nat) (h : i < 23) : ∃ (n : Nat) (j : Int), Ieee.double.read (p10 i) = .number false n j /\ n ≠ 0 /\ n < 9007199254740992 /\ (10 : Rat) ^ (i : Int) = (n : Rat) * (2 : Rat) ^ j := by
 have := List.all_eq_true.1 p10_all i (List.mem_range.2 h)
 unfold p10Ok at this
 split at this
 ·rename_i n j hr
  simp only [Bool.and_eq_true, bne_iff_ne, decide_eq_true_eq] at this
  obtain ⟨⟨h1, h2⟩, h3⟩ := this
  have h3 := Nat.eq_of_beq_eq_true h3
  refine ⟨n, j, hr, h1, h2.1, ?_⟩
  have e := zpn 2 (by decide) j
  have h4 : (n : Rat) * (2 : Rat) ^ j.toNat = (10 : Rat) ^ i * (2 : Rat) ^ (-j).toNat := by exact_mod_cast h3
  rw [<- e, <- Rat.mul_assoc] at h4
  have hp : (0 : Rat) < (2 : Rat) ^ (-j).toNat := Rat.pow_pos (by decide)
  rw [Rat.zpow_natCast]
  have hne : (2 : Rat) ^ (-j).toNat ≠ 0 := by grind
  generalize (2 : Rat) ^ (-j).toNat = G at *
  have := congrArg (fun t => t * G⁻¹) h4
  simp only [Rat.mul_assoc, Rat.mul_inv_cancel G hne, Rat.mul_one] at this
  exact this.symm
 ·cases this
theorem fmul_at {x : Nat} {neg : Bool} {a : Nat} {i : Int} (hx : Ieee.double.read x = .number neg a i) (e : Nat) (h : e < 23) (ha : a ≠ 0) : ∃ (n : Nat) (j : Int), fmul x (p10 e) = Ieee.double.nearest neg (a * n) (i + j) /\ a * n ≠ 0 /\ ((a * n : Nat) : Rat) * (2 : Rat) ^ (i + j) = (a : Rat) * (2 : Rat) ^ i * (10 : Rat) ^ (e : Int) := by
 obtain ⟨n, j, hr, hn, -, hv⟩ := p10_at e h
 refine ⟨n, j, ?_, Nat.mul_ne_zero ha hn, ?_⟩
 ·unfold fmul floatBits
  simp only [FloatKind.format, Ieee.Format.mul, hr, hx, Ieee.Datum.product]
  cases neg <;> rfl
 ·rw [hv, tz]; push_cast; grind
theorem near_big (neg : Bool) (mag : Nat) (place : Int) (hm : mag ≠ 0) (h : (9007199254740992 : Rat) <= (mag : Rat) * (2 : Rat) ^ place) :
  ∃ R, Ieee.double.nearest neg mag place = Ieee.double.word neg R /\ 4845873199050653696 <= R /\ R <= 9218868437227405312 := by
 unfold Ieee.Format.nearest
 rw [if_neg hm]
 have hlp : Ieee.double.leastPlace = -1074 := by decide
 have hfb : (Ieee.double.fractionBits : Int) = 52 := rfl
 have hbin : Ieee.double.binade = 4503599627370496 := by decide
 have hinf : Ieee.double.infRung = 9218868437227405312 := by decide
 rw [hlp, hfb, hbin, hinf]
 simp only []
 obtain ⟨L, hL⟩ : ∃ L, mag.log2 = L := ⟨_, rfl⟩
 have L1 : 2 ^ L <= mag := by rw [<- hL]; exact Nat.log2_self_le hm
 have L2 : mag < 2 ^ (L + 1) := by rw [<- hL]; exact Nat.lt_log2_self
 have y2 : (mag : Rat) * (2 : Rat) ^ place < (2 : Rat) ^ (place + (L : Int) + 1) := by
  have : (mag : Rat) < (2 : Rat) ^ ((L + 1 : Nat) : Int) := by rw [Rat.zpow_natCast]; exact_mod_cast L2
  have := Rat.mul_lt_mul_of_pos_right this (two_pos place)
  rw [show place + (L : Int) + 1 = ((L + 1 : Nat) : Int) + place from by omega, tz]; exact this
 have e53 : (2 : Rat) ^ (53 : Int) = 9007199254740992 := rfl
 have hpl : (53 : Int) < place + (L : Int) + 1 := two_lt (by rw [e53]; grind)
 obtain ⟨last, hlast⟩ : ∃ last, max (place + (L : Int) - 52) (-1074) = last := ⟨_, rfl⟩
 rw [hL, hlast]
 have hlv : last = place + (L : Int) - 52 := by omega
 have hcut : 4503599627370496 <= Ieee.Toward.even.cut neg (mag <<< (place - last).toNat) (last - place).toNat := by
  rcases Int.lt_or_le place last with g | g
  ·rw [show (place - last).toNat = 0 from by omega, Nat.shiftLeft_zero]
   obtain ⟨r, hr, c1, -⟩ := cut_spec neg mag (last - place).toNat (by omega)
   rw [hr]
   have e : (last - place).toNat = L - 52 := by omega
   rw [e] at c1
   have e2 : 2 ^ L = 2 ^ 52 * 2 ^ (L - 52) := by rw [<- Nat.pow_add]; congr 1; omega
   have e3 : (2 * 2 ^ 52) * 2 ^ (L - 52) <= (2 * r + 1) * 2 ^ (L - 52) := by
    have : (2 * 2 ^ 52) * 2 ^ (L - 52) = 2 * 2 ^ L := by rw [e2, Nat.mul_assoc]
    omega
   have := Nat.le_of_mul_le_mul_right e3 (Nat.two_pow_pos _)
   omega
  ·rw [show (last - place).toNat = 0 from by omega]
   obtain ⟨r, hr, c1, -⟩ := cut_spec neg (mag <<< (place - last).toNat) 0 (by omega)
   rw [hr]
   rw [Nat.shiftLeft_eq, Nat.pow_zero, Nat.mul_one] at c1
   have e : (place - last).toNat = 52 - L := by omega
   rw [e] at c1
   have e2 : 2 ^ 52 = 2 ^ L * 2 ^ (52 - L) := by rw [<- Nat.pow_add]; congr 1; omega
   have e3 : 2 ^ L * 2 ^ (52 - L) <= mag * 2 ^ (52 - L) := Nat.mul_le_mul_right _ L1
   omega
 generalize Ieee.Toward.even.cut neg (mag <<< (place - last).toNat) (last - place).toNat = r at hcut
 refine ⟨_, rfl, ?_, Nat.min_le_right _ _⟩
 have : 1075 <= (last - -1074).toNat := by omega
 have := Nat.mul_le_mul_right 4503599627370496 this
 refine Nat.le_min.2 ⟨by omega, by omega⟩
theorem p15 : Ieee.double.read 4831355200913801216 = .number false 8000000000000000 (-3) := by decide +kernel
theorem m15 : Ieee.double.read 14054727237768577024 = .number true 8000000000000000 (-3) := by decide +kernel
theorem read_big (neg : Bool) (R : Nat) (h1 : 4845873199050653696 <= R) (h2 : R <= 9218868437227405312) : Ieee.double.read (Ieee.double.word neg R) = .infinity neg \/ ∃ (k : Nat) (q : Nat), Ieee.double.read (Ieee.double.word neg R) = .number neg k (q : Int) /\ 4503599627370496 <= k /\ 1 <= q := by
 rcases (show R = 9218868437227405312 \/ R < 9218868437227405312 by omega) with g | g
 ·subst g
  left
  cases neg <;> decide +kernel
 ·right
  refine ⟨R % 4503599627370496 + 4503599627370496, R / 4503599627370496 - 1075, ?_, by omega, by omega⟩
  have := read_word neg (R % 4503599627370496 + 4503599627370496) (((R / 4503599627370496 - 1075 : Nat)) : Int) (by omega) (by omega) (by omega) (.inl (by omega))
  have e : rung (R % 4503599627370496 + 4503599627370496) ((R / 4503599627370496 - 1075 : Nat) : Int) = R := by unfold rung; omega
  rw [e] at this
  exact this
theorem big_none (neg : Bool) (x : Nat) (hx : Ieee.double.read x = .infinity neg \/ ∃ (k : Nat) (q : Nat), Ieee.double.read x = .number neg k (q : Int) /\ 4503599627370496 <= k /\ 1 <= q) : (fgt x 4831355200913801216 || flt x 14054727237768577024) = true := by
 unfold fgt flt
 simp only [FloatKind.format, Ieee.Format.order, p15, m15]
 rcases hx with h | ⟨k, q, h, hk, hq⟩
 ·rw [h]; cases neg <;> rfl
 ·rw [h]
  simp only [Ieee.Datum.order]
  rw [show min (q : Int) (-3) = -3 from by omega]
  rw [show ((-3 : Int) - -3).toNat = 0 from rfl, show ((q : Int) - -3).toNat = q + 3 from by omega]
  have h2 : 2 ^ 4 <= 2 ^ (q + 3) := Nat.pow_le_pow_right (by decide) (by omega)
  have h3 : 4503599627370496 * 2 ^ 4 <= k * 2 ^ (q + 3) := Nat.mul_le_mul hk h2
  unfold Ieee.signed
  rw [Nat.shiftLeft_eq, Nat.shiftLeft_eq]
  generalize k * 2 ^ (q + 3) = Z at *
  cases neg
  ·simp only [Bool.false_eq_true, if_false]
   have : compare ((Z : Nat) : Int) ((8000000000000000 * 2 ^ 0 : Nat) : Int) = .gt := by
    rw [Int.compare_eq_gt]; omega
   rw [this]; rfl
  ·simp only [if_true]
   have : compare (-((Z : Nat) : Int)) (-((8000000000000000 * 2 ^ 0 : Nat) : Int)) = .lt := by
    rw [Int.compare_eq_lt]; omega
   rw [this]; simp
theorem rat_le_lt {a b c : Rat} (h1 : a <= b) (h2 : b < c) : a < c := by grind
theorem rat_lt_le {a b c : Rat} (h1 : a < b) (h2 : b <= c) : a < c := by grind
theorem quo_in0 {k : Nat} {q : Int} {y : Rat} (h : In0 k q y) (u : Int) (D : Nat) (hD : 9007199254740992 <= D) (h1 : (2 * D : Rat) * (2 : Rat) ^ u < y) (h2 : y < (2 * D + 2 : Rat) * (2 : Rat) ^ u) :
  In0 k q (((2 * D + 1 : Nat) : Rat) * (2 : Rat) ^ u) := by
 obtain ⟨k1, k2, q1, q2, nm, lo, hi, los, his, sk⟩ := h
 have hV := two_pos u
 have huq : u < q - 1 := by
  refine two_lt ?_
  have k2' : (k : Rat) + 1 <= 9007199254740992 := by exact_mod_cast k2
  have hD' : (9007199254740992 : Rat) <= D := by exact_mod_cast hD
  have g1 := Rat.mul_le_mul_of_nonneg_right (show (18014398509481984 : Rat) <= 2 * D by grind) (Rat.le_of_lt hV)
  have g2 := Rat.mul_le_mul_of_nonneg_right (show (2 * k : Rat) + 1 <= 18014398509481984 by grind) (Rat.le_of_lt (two_pos (q - 1)))
  have := two_pos (q - 1)
  generalize (2 : Rat) ^ (q - 1) = G at *
  generalize (2 : Rat) ^ u = V at *
  clear los his sk lo h2
  grind
 obtain ⟨t, ht⟩ : ∃ t : Nat, q - 2 = u + t := ⟨(q - 2 - u).toNat, by omega⟩
 have e2 : (2 : Rat) ^ (q - 2) = ((2 ^ t : Nat) : Rat) * (2 : Rat) ^ u := by
  rw [ht, tz, Rat.zpow_natCast]; push_cast; grind
 have e1 : (2 : Rat) ^ (q - 1) = ((2 * 2 ^ t : Nat) : Rat) * (2 : Rat) ^ u := by
  have a1 := two_half q
  have a2 := two_quart q
  have : ((2 * 2 ^ t : Nat) : Rat) = 2 * ((2 ^ t : Nat) : Rat) := by push_cast; rfl
  rw [this]
  generalize ((2 ^ t : Nat) : Rat) = T at *
  generalize (2 : Rat) ^ u = V at *
  generalize (2 : Rat) ^ q = I at *
  clear los his sk
  grind
 obtain ⟨a, ha⟩ : ∃ a, 2 * k = a + 1 := ⟨2 * k - 1, by omega⟩
 have ha' : (2 * k : Rat) = (a : Rat) + 1 := by exact_mod_cast ha
 have can : ∀ {x z : Rat}, x * (2 : Rat) ^ u < z * (2 : Rat) ^ u -> x < z := fun h => Rat.lt_of_mul_lt_mul_right h (Rat.le_of_lt hV)
 have cle : ∀ {x z : Nat}, x <= z -> (x : Rat) * (2 : Rat) ^ u <= (z : Rat) * (2 : Rat) ^ u := fun h => Rat.mul_le_mul_of_nonneg_right (by exact_mod_cast h) (Rat.le_of_lt hV)
 have clt : ∀ {x z : Nat}, x < z -> (x : Rat) * (2 : Rat) ^ u < (z : Rat) * (2 : Rat) ^ u := fun h => Rat.mul_lt_mul_of_pos_right (by exact_mod_cast h) hV
 have El : ((2 * k : Rat) - 1) * (2 : Rat) ^ (q - 1) = ((a * (2 * 2 ^ t) : Nat) : Rat) * (2 : Rat) ^ u := by
  rw [e1, ha']; push_cast; grind
 have Eh : ((2 * k : Rat) + 1) * (2 : Rat) ^ (q - 1) = (((a + 2) * (2 * 2 ^ t) : Nat) : Rat) * (2 : Rat) ^ u := by
  rw [e1, ha']; push_cast; grind
 have c1 : a * (2 * 2 ^ t) < 2 * D + 1 := by
  have : ((a * (2 * 2 ^ t) : Nat) : Rat) < ((2 * D + 2 : Nat) : Rat) := can (by
   have e : ((2 * D + 2 : Nat) : Rat) = (2 * D + 2 : Rat) := by push_cast; rfl
   rw [e, <- El]
   exact rat_le_lt lo h2)
  have h3 : a * (2 * 2 ^ t) < 2 * D + 2 := by exact_mod_cast this
  have h4 : a * (2 * 2 ^ t) = 2 * (a * 2 ^ t) := by rw [Nat.mul_left_comm]
  omega
 have c2 : 2 * D + 1 < (a + 2) * (2 * 2 ^ t) := by
  have : ((2 * D : Nat) : Rat) < (((a + 2) * (2 * 2 ^ t) : Nat) : Rat) := can (by
   have e : ((2 * D : Nat) : Rat) = (2 * D : Rat) := by push_cast; rfl
   rw [e, <- Eh]
   exact rat_lt_le h1 hi)
  have h3 : 2 * D < (a + 2) * (2 * 2 ^ t) := by exact_mod_cast this
  have h4 : (a + 2) * (2 * 2 ^ t) = 2 * ((a + 2) * 2 ^ t) := by rw [Nat.mul_left_comm]
  omega
 refine ⟨k1, k2, q1, q2, nm, ?_, ?_, ?_, ?_, ?_⟩
 ·rw [El]; exact cle (Nat.le_of_lt c1)
 ·rw [Eh]; exact cle (Nat.le_of_lt c2)
 ·intro h; rw [El] at h; have := clt c1; rw [h] at this; exact absurd this Rat.lt_irrefl
 ·intro h; rw [Eh] at h; have := clt c2; rw [h] at this; exact absurd this Rat.lt_irrefl
 ·intro hk hq
  have s := sk hk hq
  have Es : ((4 * k : Rat) - 1) * (2 : Rat) ^ (q - 2) = (((2 * a + 1) * 2 ^ t : Nat) : Rat) * (2 : Rat) ^ u := by
   have : (4 * k : Rat) - 1 = 2 * (a : Rat) + 1 := by clear s sk los his lo hi; grind
   rw [e2, this]; push_cast; grind
  rw [Es] at s ⊢
  refine cle ?_
  cases t with
  | zero => rw [Nat.pow_zero, Nat.mul_one]; omega
  | succ t =>
   have : (((2 * a + 1) * 2 ^ (t + 1) : Nat) : Rat) < ((2 * D + 2 : Nat) : Rat) := can (by
    have e : ((2 * D + 2 : Nat) : Rat) = (2 * D + 2 : Rat) := by push_cast; rfl
    rw [e]
    exact rat_le_lt s h2)
   have h3 : (2 * a + 1) * 2 ^ (t + 1) < 2 * D + 2 := by exact_mod_cast this
   rw [Nat.pow_succ] at h3 ⊢
   have h4 : (2 * a + 1) * (2 ^ t * 2) = 2 * ((2 * a + 1) * 2 ^ t) := by rw [Nat.mul_comm (2 ^ t), Nat.mul_left_comm]
   omega
theorem rat_cancel {c a b : Rat} (h : c ≠ 0) (he : a * c = b * c) : a = b := by
 have := congrArg (fun t => t * c⁻¹) he
 simpa only [Rat.mul_assoc, Rat.mul_inv_cancel c h, Rat.mul_one] using this
theorem rat_can_lt {c a b : Rat} (h : 0 < c) (he : a * c < b * c) : a < b := Rat.lt_of_mul_lt_mul_right he (Rat.le_of_lt h)
theorem rat_lt_or (a b : Rat) : a < b \/ b <= a := by
 by_cases h : b <= a
 ·exact .inr h
 ·exact .inl (by grind)
theorem fquo_in0 {x : Nat} {neg : Bool} {a : Nat} {i : Int} (hx : Ieee.double.read x = .number neg a i) (e : Nat) (he : e < 23) (ha : a ≠ 0) {k : Nat} {q : Int} {y : Rat} (h : In0 k q y) (hy : y * (10 : Rat) ^ (e : Int) = (a : Rat) * (2 : Rat) ^ i) :
  fquo x (p10 e) = Ieee.double.word neg (rung k q) := by
 obtain ⟨n, j, hr, hn, -, hv⟩ := p10_at e he
 have hn0 : 0 < n := Nat.pos_of_ne_zero hn
 obtain ⟨more, hmore⟩ : ∃ more, Ieee.double.fractionBits + 2 + n.log2 - a.log2 = more := ⟨_, rfl⟩
 obtain ⟨u, hu⟩ : ∃ u : Int, i - j - more - 1 = u := ⟨_, rfl⟩
 have hf : fquo x (p10 e) = Ieee.double.nearest neg (2 * ((a <<< more) / n) + ((a <<< more) % n != 0).toNat) u := by
  unfold fquo floatBits
  simp only [FloatKind.format, Ieee.Format.div, hr, hx, Ieee.Datum.quotient, if_neg hn, hmore, hu]
  cases neg <;> rfl
 rw [hf]
 obtain ⟨A, hA⟩ : ∃ A, a <<< more = A := ⟨_, rfl⟩
 have hA2 : A = a * 2 ^ more := by rw [<- hA, Nat.shiftLeft_eq]
 rw [hA]
 have hbig : 9007199254740992 <= A / n := by
  rw [Nat.le_div_iff_mul_le hn0]
  have l1 := Nat.log2_self_le ha
  have l2 := Nat.lt_log2_self (n := n)
  have g1 : 9007199254740992 * n <= 2 ^ (54 + n.log2) := by
   have e : 2 ^ (54 + n.log2) = 9007199254740992 * 2 ^ (n.log2 + 1) := by rw [show 54 + n.log2 = 53 + (n.log2 + 1) from by omega, Nat.pow_add]
   rw [e]; exact Nat.mul_le_mul_left _ (Nat.le_of_lt l2)
  have g2 : 2 ^ (54 + n.log2) <= A := by
   have fb : Ieee.double.fractionBits = 52 := rfl
   rw [fb] at hmore
   rw [hA2]
   refine Nat.le_trans (Nat.pow_le_pow_right (by decide) (show 54 + n.log2 <= a.log2 + more by omega)) ?_
   rw [Nat.pow_add]; exact Nat.mul_le_mul_right _ l1
  exact Nat.le_trans g1 g2
 have hV := two_pos u
 have hval : y * (n : Rat) = 2 * (A : Rat) * (2 : Rat) ^ u := by
  have e : (2 : Rat) ^ i = (2 : Rat) ^ j * ((2 : Rat) ^ more * 2 * (2 : Rat) ^ u) := by
   rw [show i = j + ((more : Int) + (1 + u)) from by omega, tz, tz, tz, Rat.zpow_natCast]
   have : (2 : Rat) ^ (1 : Int) = 2 := rfl
   rw [this]; grind
  have hAr : (A : Rat) = (a : Rat) * (2 : Rat) ^ more := by rw [hA2]; push_cast; rfl
  rw [hv, e] at hy
  have hj := two_pos j
  refine rat_cancel (Rat.ne_of_gt hj) ?_
  rw [hAr]
  generalize (2 : Rat) ^ j = J at *
  generalize (2 : Rat) ^ u = V at *
  generalize (2 : Rat) ^ more = M at *
  clear h hbig hv e hAr
  grind
 have hdm := Nat.div_add_mod A n
 have hrl := Nat.mod_lt A hn0
 generalize A / n = D at *
 generalize A % n = r at *
 have hAq : (A : Rat) = (n : Rat) * D + r := by exact_mod_cast hdm.symm
 have hnp : (0 : Rat) < n := by exact_mod_cast hn0
 have D0 : 2 * D ≠ 0 := by omega
 by_cases hr0 : r = 0
 ·subst hr0
  have : ((0 : Nat) != 0).toNat = 0 := rfl
  rw [this, Nat.add_zero]
  refine nearest_at h neg _ u D0 ?_
  have e : ((2 * D : Nat) : Rat) = 2 * (D : Rat) := by push_cast; rfl
  refine rat_cancel (Rat.ne_of_gt hnp) ?_
  rw [hval, hAq, e]
  have : ((0 : Nat) : Rat) = 0 := rfl
  rw [this]
  grind
 ·have : (r != 0).toNat = 1 := by rw [(bne_iff_ne).2 hr0]; rfl
  rw [this]
  have r1 : (0 : Rat) < r := by exact_mod_cast Nat.pos_of_ne_zero hr0
  have r2 : (r : Rat) < n := by exact_mod_cast hrl
  refine nearest_at (quo_in0 h u D hbig ?_ ?_) neg _ u (by omega) rfl
  ·refine rat_can_lt hnp ?_
   rw [hval, hAq]
   have := Rat.mul_lt_mul_of_pos_right r1 hV
   generalize (2 : Rat) ^ u = V at *
   clear h hval hAq hy
   grind
  ·refine rat_can_lt hnp ?_
   rw [hval, hAq]
   have := Rat.mul_lt_mul_of_pos_right r2 hV
   generalize (2 : Rat) ^ u = V at *
   clear h hval hAq hy
   grind
theorem exact_at {k : Nat} {q : Int} {y : Rat} (h : In0 k q y) (d : Nat) (p : Int) (neg : Bool) (hd : d ≠ 0) (hy : y = (d : Rat) * (10 : Rat) ^ p) {x : Nat} (hx : exactN d p neg = some x) : x = Ieee.double.word neg (rung k q) := by
 unfold exactN at hx
 split at hx
 ·cases hx
 ·rename_i hm
  obtain ⟨k0, q0, hr0, hv0, h0⟩ := exactF_at d neg hd (by omega)
  split at hx
  ·rename_i hp
   subst hp
   cases hx
   rw [Rat.zpow_zero, Rat.mul_one] at hy
   subst hy
   exact exactF_in0 h hd neg
  ·split at hx
   ·rename_i hp0 hp
    by_cases h22 : 22 < p
    ·simp only [if_pos h22] at hx
     obtain ⟨n, j, hf, hnz, hval⟩ := fmul_at hr0 (p - 22).toNat (by omega) h0
     split at hx
     ·cases hx
     ·rename_i hcmp
      cases hx
      rw [show (22 : Int).toNat = 22 from rfl]
      have hsmall : ((k0 * n : Nat) : Rat) * (2 : Rat) ^ (q0 + j) < 9007199254740992 := by
       rcases rat_lt_or (((k0 * n : Nat) : Rat) * (2 : Rat) ^ (q0 + j)) 9007199254740992 with g | g
       ·exact g
       ·exfalso
        obtain ⟨R, hR, R1, R2⟩ := near_big neg (k0 * n) (q0 + j) hnz g
        have := big_none neg (fmul (exactF d neg) (p10 (p - 22).toNat)) (by rw [hf, hR]; exact read_big neg R R1 R2)
        exact hcmp this
      have hN : ((k0 * n : Nat) : Rat) * (2 : Rat) ^ (q0 + j) = ((d * 10 ^ (p - 22).toNat : Nat) : Rat) := by
       rw [hval, <- hv0, Rat.zpow_natCast]; push_cast; rfl
      rw [hN] at hsmall
      have hN0 : d * 10 ^ (p - 22).toNat ≠ 0 := Nat.mul_ne_zero hd (Nat.ne_of_gt (Nat.pow_pos (by decide)))
      have hN2 : d * 10 ^ (p - 22).toNat < 9007199254740992 := by
       have c : ((9007199254740992 : Nat) : Rat) = 9007199254740992 := rfl
       rw [<- c] at hsmall
       exact_mod_cast hsmall
      obtain ⟨k1, q1, hi, hv1, h1⟩ := whole_in0 _ hN0 hN2
      have hf2 := nearest_at hi neg (k0 * n) (q0 + j) hnz hN.symm
      have hr1 : Ieee.double.read (fmul (exactF d neg) (p10 (p - 22).toNat)) = .number neg k1 q1 := by
       rw [hf, hf2]; exact read_word neg k1 q1 hi.k2 hi.q1 hi.q2 hi.nm
      obtain ⟨n2, j2, hf3, hnz3, hval3⟩ := fmul_at hr1 22 (by omega) h1
      rw [hf3]
      refine nearest_at h neg _ _ hnz3 ?_
      rw [hval3, <- hv1, hy]
      have e : (10 : Rat) ^ p = (10 : Rat) ^ (p - 22).toNat * (10 : Rat) ^ ((22 : Nat) : Int) := by
       rw [<- Rat.zpow_natCast, <- Rat.zpow_add (by decide)]; congr 1; omega
      rw [e]; push_cast; grind
    ·simp only [if_neg h22] at hx
     split at hx
     ·cases hx
     ·cases hx
      obtain ⟨n, j, hf, hnz, hval⟩ := fmul_at hr0 p.toNat (by omega) h0
      rw [hf]
      refine nearest_at h neg _ _ hnz ?_
      rw [hval, <- hv0, hy, Int.toNat_of_nonneg (by omega)]
   ·split at hx
    ·rename_i hp
     cases hx
     refine fquo_in0 hr0 (-p).toNat (by omega) h0 h ?_
     rw [<- hv0, hy, Int.toNat_of_nonneg (by omega), Rat.mul_assoc, <- Rat.zpow_add (by decide), show p + -p = 0 from by omega, Rat.zpow_zero, Rat.mul_one]
    ·cases hx
theorem pack_at {k : Nat} {q : Int} (neg : Bool) (k2 : k < 9007199254740992) (q1 : -1074 <= q) (q2 : q <= 971) (nm : 4503599627370496 <= k \/ q = -1074) : packN neg k q = some (Ieee.double.word neg (rung k q)) := by
 have hw : Ieee.double.word neg (rung k q) = sg neg + rung k q := by
  have hs : Ieee.double.signWeight = 9223372036854775808 := by decide
  unfold Ieee.Format.word sg
  rw [hs]
  cases neg
  ·simp only [Bool.false_eq_true, if_false]; omega
  ·simp only [if_true]
 rw [hw]
 unfold packN
 split
 ·rw [if_neg (by omega)]
  refine congrArg some ?_
  unfold rung
  omega
 ·refine congrArg some ?_
  unfold rung
  omega
end Go.Proofs.YtdfolbmoohcblaaGreatDoor
