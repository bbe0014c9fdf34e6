/-
For FnReadAgain, part 37: F2.
-/
import Derived.Test.YtdfolbmoohcblaaGreatDoorM28
import Derived.Test.YtdfolbmoohcblaaGreatDoorM36
import Ieee.Arith
set_option linter.all false
namespace Go.Proofs.YtdfolbmoohcblaaGreatDoor
set_option maxRecDepth 100000
theorem stick (h S : Nat) (hS : 0 < S) : (h / S / 2 * 2 + 1) % 2 = 1 /\ (h / S / 2 * 2) * S <= h /\ h + 1 <= (h / S / 2 * 2 + 2) * S := by
 have h1 : h / S * S <= h := Nat.div_mul_le_self h S
 have h2 : h < (h / S + 1) * S := by
  have := Nat.lt_div_mul_add hS (a := h); rw [Nat.add_mul]; omega
 generalize h / S = n at *
 refine ⟨by omega, Nat.le_trans (Nat.mul_le_mul_right S (show n / 2 * 2 <= n by omega)) h1, ?_⟩
 have := Nat.mul_le_mul_right S (show n + 1 <= n / 2 * 2 + 2 by omega)
 omega
def Uns (u : Nat) (T X : Rat) : Prop :=
 (u % 2 = 1 /\ ((u : Rat) - 1) * T < X /\ X < ((u : Rat) + 1) * T) \/ ((u : Rat) * T - 36893488147419103232 < X /\ X < (u : Rat) * T + 36893488147419103232)
theorem uns_stick (h S : Nat) (hS : 0 < S) (X : Rat) (h1 : (h : Rat) * 340282366920938463463374607431768211456 < X) (h2 : X < ((h : Rat) + 1) * 340282366920938463463374607431768211456) :
  Uns (h / S / 2 * 2 + 1) (340282366920938463463374607431768211456 * (S : Rat)) X := by
 obtain ⟨a, b, c⟩ := stick h S hS
 generalize h / S / 2 * 2 = n at *
 left
 have b' : ((n : Rat) * S) <= h := by exact_mod_cast b
 have c' : ((h : Rat) + 1) <= (n + 2) * S := by exact_mod_cast c
 refine ⟨a, ?_, ?_⟩
 ·have : (((n + 1 : Nat) : Rat)) = n + 1 := by simp
  rw [this]; grind
 ·have : (((n + 1 : Nat) : Rat)) = n + 1 := by simp
  rw [this]; grind
theorem usc_spec (x hi lo s : Nat) (A : Rat) (h0 : 0 < x) (hx : x < 18446744073709551616) (hh : 18446744073709551616 <= x * hi) (hlo : lo < 18446744073709551616) (hs : 1 <= s)
  (hA1 : (hi : Rat) * 18446744073709551616 - lo - 1 < A) (hA2 : A <= (hi : Rat) * 18446744073709551616 - lo) :
  Uns (uscaleN x hi lo s) (340282366920938463463374607431768211456 * ((2 ^ s : Nat) : Rat)) ((x : Rat) * A) := by
 have hS : 2 <= 2 ^ s := by
  have := Nat.pow_le_pow_right (show 0 < 2 by decide) hs; simpa using this
 have e1 := Nat.div_add_mod (x * hi) 18446744073709551616
 have e2 := Nat.div_add_mod (x * lo) 18446744073709551616
 have l1 : x * hi % 18446744073709551616 < 18446744073709551616 := Nat.mod_lt _ (by decide)
 have l2 : x * lo % 18446744073709551616 < 18446744073709551616 := Nat.mod_lt _ (by decide)
 have l3 : x * lo / 18446744073709551616 <= 18446744073709551614 := by
  have : x * lo <= 18446744073709551615 * 18446744073709551615 := Nat.mul_le_mul (by omega) (by omega)
  omega
 have l4 : 1 <= x * hi / 18446744073709551616 := by omega
 have x0 : (0 : Rat) < x := by exact_mod_cast h0
 have x1 : (x : Rat) < 18446744073709551616 := by exact_mod_cast hx
 have p1 : (x : Rat) * A <= x * ((hi : Rat) * 18446744073709551616 - lo) := Rat.mul_le_mul_of_nonneg_left hA2 (Rat.le_of_lt x0)
 have p2 : (x : Rat) * ((hi : Rat) * 18446744073709551616 - lo - 1) < x * A := Rat.mul_lt_mul_of_pos_left hA1 x0
 unfold uscaleN
 have e1' : (18446744073709551616 : Rat) * ((x * hi / 18446744073709551616 : Nat) : Rat) + ((x * hi % 18446744073709551616 : Nat) : Rat) = (x : Rat) * hi := by exact_mod_cast e1
 have e2' : (18446744073709551616 : Rat) * ((x * lo / 18446744073709551616 : Nat) : Rat) + ((x * lo % 18446744073709551616 : Nat) : Rat) = (x : Rat) * lo := by exact_mod_cast e2
 clear e1 e2
 generalize x * hi / 18446744073709551616 = top at *
 generalize x * hi % 18446744073709551616 = mid at *
 generalize x * lo / 18446744073709551616 = mid2 at *
 generalize x * lo % 18446744073709551616 = lo2 at *
 generalize (x : Rat) * A = X at *
 have q1 : X <= 340282366920938463463374607431768211456 * (top : Rat) + 18446744073709551616 * mid - 18446744073709551616 * mid2 - lo2 := by grind
 have q2 : 340282366920938463463374607431768211456 * (top : Rat) + 18446744073709551616 * mid - 18446744073709551616 * mid2 - lo2 - 18446744073709551616 < X := by grind
 have lo20 : (0 : Rat) <= lo2 := by exact_mod_cast Nat.zero_le lo2
 have mid20 : (0 : Rat) <= mid2 := by exact_mod_cast Nat.zero_le mid2
 have lo21 : (lo2 : Rat) + 1 <= 18446744073709551616 := by exact_mod_cast l2
 have mid1 : (mid : Rat) + 1 <= 18446744073709551616 := by exact_mod_cast l1
 have mid0 : (0 : Rat) <= mid := by exact_mod_cast Nat.zero_le mid
 have mid21 : (mid2 : Rat) <= 18446744073709551614 := by exact_mod_cast l3
 clear p1 p2 e1' e2'
 simp only []
 split
 ·rename_i hne
  obtain ⟨n, r, hr, htop, hr0⟩ : ∃ n r, r < 2 ^ s /\ top = n * 2 ^ s + r /\ r ≠ 0 := by
   refine ⟨top / 2 ^ s, top % 2 ^ s, Nat.mod_lt _ (by omega), ?_, ?_⟩
   ·have := Nat.div_add_mod top (2 ^ s); rw [Nat.mul_comm] at this; omega
   ·intro h; apply hne
    have := Nat.div_add_mod top (2 ^ s); rw [Nat.mul_comm] at this; omega
  left
  have hq : top / 2 ^ s = n := by
   rw [htop, Nat.mul_comm, Nat.mul_add_div (by omega), Nat.div_eq_of_lt hr, Nat.add_zero]
  rw [hq]
  generalize 2 ^ s = S at *
  have t1 : n / 2 * 2 * S + 1 <= top := by
   have := Nat.mul_le_mul_right S (show n / 2 * 2 <= n by omega); omega
  have hk : (n / 2 * 2 + 1) % 2 = 1 := by omega
  have t2 : top + 1 <= (n / 2 * 2 + 2) * S := by
   have := Nat.mul_le_mul_right S (show n + 1 <= n / 2 * 2 + 2 by omega)
   rw [Nat.add_mul, Nat.one_mul] at this; omega
  generalize n / 2 * 2 = k at *
  have t1' : (k : Rat) * S + 1 <= top := by exact_mod_cast t1
  have t2' : (top : Rat) + 1 <= (k + 2) * S := by exact_mod_cast t2
  have ke : ((k + 1 : Nat) : Rat) = k + 1 := by simp
  rw [ke]
  refine ⟨hk, by grind, by grind⟩
 ·rename_i heq
  have heq : top / 2 ^ s * 2 ^ s = top := Decidable.not_not.1 heq
  by_cases hb : mid < mid2
  ·simp only [if_pos hb]
   have hb' : (mid : Rat) + 1 <= mid2 := by exact_mod_cast hb
   rw [if_pos (by omega)]
   have ht : ((top - 1 : Nat) : Rat) = top - 1 := by
    have : (((top - 1) + 1 : Nat) : Rat) = top := by rw [Nat.sub_add_cancel l4]
    have h2 : (((top - 1) + 1 : Nat) : Rat) = ((top - 1 : Nat) : Rat) + 1 := by simp
    grind
   refine uns_stick (top - 1) (2 ^ s) (by omega) X ?_ ?_
   ·rw [ht]; grind
   ·rw [ht]; grind
  ·simp only [if_neg hb, Nat.sub_zero]
   have hb' : (mid2 : Rat) <= mid := by exact_mod_cast Nat.le_of_not_lt hb
   split
   ·rename_i h1
    have h1' : (mid2 : Rat) + 2 <= mid := by
     have : mid2 + 2 <= mid := by omega
     exact_mod_cast this
    exact uns_stick top (2 ^ s) (by omega) X (by grind) (by grind)
   ·rename_i h1
    have h1' : (mid : Rat) <= mid2 + 1 := by
     have : mid <= mid2 + 1 := by omega
     exact_mod_cast this
    right
    have ht : ((top / 2 ^ s : Nat) : Rat) * ((2 ^ s : Nat) : Rat) = top := by exact_mod_cast heq
    generalize ((top / 2 ^ s : Nat) : Rat) = u at *
    generalize ((2 ^ s : Nat) : Rat) = S at *
    exact ⟨by grind, by grind⟩
def tabAt (p : Int) (r : Nat × Nat) : Bool :=
 let pm := r.1 * 18446744073709551616 - r.2
 let lp := p * 108853 / 32768
 let num := 10 ^ p.toNat * 2 ^ (127 - lp).toNat
 let den := 10 ^ (-p).toNat * 2 ^ (lp - 127).toNat
 Nat.ble (r.2 + 1) (r.1 * 18446744073709551616) && Nat.blt ((pm - 1) * den) num && Nat.ble num (pm * den)
def tabAll : Int -> List (Nat × Nat) -> Bool
 | _, [] => true
 | p, r :: rs => tabAt p r && tabAll (p + 1) rs
theorem tab_ok : tabAll (-348) Go.Pinned.pow10Rows = true := by decide +kernel
theorem tabAll_at : ∀ (l : List (Nat × Nat)) (p : Int), tabAll p l = true -> ∀ i (h : i < l.length), tabAt (p + i) (l[i]) = true
 | [], _, _, i, h => by simp at h
 | r :: rs, p, h, i, hi => by
  unfold tabAll at h
  rw [Bool.and_eq_true] at h
  cases i with
  | zero => rw [show (p + ((0 : Nat) : Int)) = p from by omega]; exact h.1
  | succ i =>
   have := tabAll_at rs (p + 1) h.2 i (by simpa using hi)
   rw [show p + ((i + 1 : Nat) : Int) = p + 1 + (i : Int) from by omega]
   exact this
theorem zpn (x : Rat) (hx : x ≠ 0) (q : Int) : x ^ q * (x ^ (-q).toNat : Rat) = x ^ q.toNat := by
 rw [<- Rat.zpow_natCast, <- Rat.zpow_natCast, <- Rat.zpow_add hx]
 congr 1; omega
theorem ptab_at (p : Int) (h1 : -348 <= p) (h2 : p <= 347) :
  ((hiAt p : Rat) * 18446744073709551616 - loAt p - 1 < (10 : Rat) ^ p * (2 : Rat) ^ (127 - p * 108853 / 32768)) /\ (10 : Rat) ^ p * (2 : Rat) ^ (127 - p * 108853 / 32768) <= (hiAt p : Rat) * 18446744073709551616 - loAt p := by
 have hlen : Go.Pinned.pow10Rows.length = 696 := by decide +kernel
 have hlt : (p + 348).toNat < Go.Pinned.pow10Rows.length := by omega
 have h := tabAll_at _ _ tab_ok _ hlt
 rw [show (-348 : Int) + (((p + 348).toNat : Nat) : Int) = p from by omega] at h
 unfold hiAt loAt
 rw [List.getD_eq_getElem?_getD, List.getElem?_eq_getElem hlt, Option.getD_some]
 generalize Go.Pinned.pow10Rows[(p + 348).toNat] = r at *
 obtain ⟨hi, lo⟩ := r
 unfold tabAt at h
 simp only [Bool.and_eq_true, Nat.ble_eq, Nat.blt_eq] at h
 obtain ⟨⟨g1, g2⟩, g3⟩ := h
 have a := zpn 10 (by decide) p
 have b := zpn 2 (by decide) (127 - p * 108853 / 32768)
 rw [show -(127 - p * 108853 / 32768) = p * 108853 / 32768 - 127 from by omega] at b
 have d1 : (0 : Rat) < (10 : Rat) ^ (-p).toNat := Rat.pow_pos (by decide)
 have d2 : (0 : Rat) < (2 : Rat) ^ (p * 108853 / 32768 - 127).toNat := Rat.pow_pos (by decide)
 have d := Rat.mul_pos d1 d2
 generalize p.toNat = n1 at *
 generalize (127 - p * 108853 / 32768).toNat = n2 at *
 generalize (-p).toNat = n3 at *
 generalize (p * 108853 / 32768 - 127).toNat = n4 at *
 obtain ⟨pm, hpm⟩ : ∃ pm, hi * 18446744073709551616 - lo = pm := ⟨_, rfl⟩
 obtain ⟨pn, hpn⟩ : ∃ pn, pm - 1 = pn := ⟨_, rfl⟩
 rw [hpm, hpn] at g2
 rw [hpm] at g3
 have g3' : (10 : Rat) ^ n1 * (2 : Rat) ^ n2 <= (pm : Rat) * ((10 : Rat) ^ n3 * (2 : Rat) ^ n4) := by exact_mod_cast g3
 have g2' : (pn : Rat) * ((10 : Rat) ^ n3 * (2 : Rat) ^ n4) < (10 : Rat) ^ n1 * (2 : Rat) ^ n2 := by exact_mod_cast g2
 rw [<- hpn, <- hpm] at g2'
 rw [<- hpm] at g3'
 have c1 : ((hi * 18446744073709551616 - lo : Nat) : Rat) = (hi : Rat) * 18446744073709551616 - lo := by
  have : (((hi * 18446744073709551616 - lo) + lo : Nat) : Rat) = ((hi * 18446744073709551616 : Nat) : Rat) := by rw [Nat.sub_add_cancel (by omega)]
  have e1 : (((hi * 18446744073709551616 - lo) + lo : Nat) : Rat) = ((hi * 18446744073709551616 - lo : Nat) : Rat) + lo := Rat.natCast_add _ _
  have e2 : ((hi * 18446744073709551616 : Nat) : Rat) = (hi : Rat) * 18446744073709551616 := Rat.natCast_mul _ _
  grind
 have c2 : ((hi * 18446744073709551616 - lo - 1 : Nat) : Rat) = (hi : Rat) * 18446744073709551616 - lo - 1 := by
  have : (((hi * 18446744073709551616 - lo - 1) + 1 : Nat) : Rat) = ((hi * 18446744073709551616 - lo : Nat) : Rat) := by rw [Nat.sub_add_cancel (by omega)]
  have e1 : (((hi * 18446744073709551616 - lo - 1) + 1 : Nat) : Rat) = ((hi * 18446744073709551616 - lo - 1 : Nat) : Rat) + 1 := Rat.natCast_add _ 1
  grind
 rw [c1] at g3'
 rw [c2] at g2'
 rw [<- a, <- b] at g2' g3'
 generalize (10 : Rat) ^ p = P at *
 generalize (2 : Rat) ^ (127 - p * 108853 / 32768) = Q at *
 generalize (10 : Rat) ^ n3 = D1 at *
 generalize (2 : Rat) ^ n4 = D2 at *
 constructor
 ·refine Rat.lt_of_mul_lt_mul_right (c := D1 * D2) ?_ (Rat.le_of_lt d)
  show ((hi : Rat) * 18446744073709551616 - lo - 1) * (D1 * D2) < P * Q * (D1 * D2)
  have : P * Q * (D1 * D2) = P * D1 * (Q * D2) := by grind
  rw [this]; exact g2'
 ·refine Rat.le_of_mul_le_mul_right (c := D1 * D2) ?_ d
  show P * Q * (D1 * D2) <= ((hi : Rat) * 18446744073709551616 - lo) * (D1 * D2)
  have : P * Q * (D1 * D2) = P * D1 * (Q * D2) := by grind
  rw [this]; exact g3'
def Unr (u : Nat) (V : Rat) : Prop :=
 (u % 2 = 1 /\ (u : Rat) - 1 < V /\ V < (u : Rat) + 1) \/ ((V - u) * 10633823966279326983230456482242756608 < V /\ ((u : Rat) - V) * 10633823966279326983230456482242756608 < V)
theorem unr_of_uns {u : Nat} {T X V : Rat} (hT : 0 < T) (hV : V * T = X) (hX : 392318858461667547739736838950479151006397215279002157056 <= X) (h : Uns u T X) : Unr u V := by
 subst hV
 rcases h with ⟨h1, h2, h3⟩ | ⟨h1, h2⟩
 ·left
  exact ⟨h1, Rat.lt_of_mul_lt_mul_right h2 (Rat.le_of_lt hT), Rat.lt_of_mul_lt_mul_right h3 (Rat.le_of_lt hT)⟩
 ·right
  constructor
  ·refine Rat.lt_of_mul_lt_mul_right (c := T) ?_ (Rat.le_of_lt hT)
   grind
  ·refine Rat.lt_of_mul_lt_mul_right (c := T) ?_ (Rat.le_of_lt hT)
   grind
theorem two_z (a b : Int) : (2 : Rat) ^ a * (2 : Rat) ^ b = (2 : Rat) ^ (a + b) := (Rat.zpow_add (by decide) a b).symm
theorem usc_val (x : Nat) (e p : Int) (hx1 : 4611686018427387904 <= x) (hx2 : x < 18446744073709551616) (hp1 : -348 <= p) (hp2 : p <= 347) (hs : 1 <= sOf e p) :
  Unr (uscaleN x (hiAt p) (loAt p) (sOf e p).toNat) ((x : Rat) * (2 : Rat) ^ (e + 2) * (10 : Rat) ^ p) := by
 obtain ⟨r1, r2, r3⟩ := row_at p hp1 hp2
 obtain ⟨t1, t2⟩ := ptab_at p hp1 hp2
 have hh : 18446744073709551616 <= x * hiAt p := Nat.le_trans (by decide) (Nat.mul_le_mul hx1 r1)
 have key := usc_spec x (hiAt p) (loAt p) (sOf e p).toNat _ (by omega) hx2 hh r3 (by omega) t1 t2
 have hS : (0 : Rat) < ((2 ^ (sOf e p).toNat : Nat) : Rat) := by exact_mod_cast Nat.two_pow_pos _
 refine unr_of_uns ?_ ?_ ?_ key
 ·grind
 ·have e1 : (((2 ^ (sOf e p).toNat : Nat)) : Rat) = (2 : Rat) ^ (sOf e p) := by
   rw [Rat.natCast_pow, <- Rat.zpow_natCast]
   congr 1; omega
  have e2 : (340282366920938463463374607431768211456 : Rat) = (2 : Rat) ^ (128 : Int) := rfl
  rw [e1, e2]
  have e3 : (2 : Rat) ^ (e + 2) * ((2 : Rat) ^ (128 : Int) * (2 : Rat) ^ sOf e p) = (2 : Rat) ^ (127 - p * 108853 / 32768) := by
   rw [two_z, two_z]; congr 1; unfold sOf; omega
  rw [<- e3]; grind
 ·have a1 : (9223372036854775808 : Rat) <= hiAt p := by exact_mod_cast r1
  have a2 : (loAt p : Rat) < 18446744073709551616 := by exact_mod_cast r3
  have a3 : (4611686018427387904 : Rat) <= x := by exact_mod_cast hx1
  have a4 : (85070591730234615865843651857942052864 : Rat) <= (10 : Rat) ^ p * (2 : Rat) ^ (127 - p * 108853 / 32768) := by grind
  have a5 := Rat.mul_le_mul_of_nonneg_left a4 (show (0 : Rat) <= x by grind)
  have a6 := Rat.mul_le_mul_of_nonneg_right a3 (show (0 : Rat) <= 85070591730234615865843651857942052864 by decide)
  generalize (x : Rat) * ((10 : Rat) ^ p * (2 : Rat) ^ (127 - p * 108853 / 32768)) = Z at *
  clear key t1 t2 a1 a2 hS a4
  grind
structure Inn (k : Nat) (q : Int) (y : Rat) : Prop where
 k1 : 1 <= k
 k2 : k < 9007199254740992
 q1 : -1074 <= q
 q2 : q <= 971
 nm : 4503599627370496 <= k \/ q = -1074
 y0 : 0 < y
 lo : ((2 * k : Rat) - 1) * (2 : Rat) ^ (q - 1) <= y
 hi : y <= ((2 * k : Rat) + 1) * (2 : Rat) ^ (q - 1)
 los : ((2 * k : Rat) - 1) * (2 : Rat) ^ (q - 1) = y -> k % 2 = 0
 his : y = ((2 * k : Rat) + 1) * (2 : Rat) ^ (q - 1) -> k % 2 = 0
 sl : ((2 * k : Rat) - 1) * (2 : Rat) ^ (q - 1) = y \/ y <= (y - ((2 * k : Rat) - 1) * (2 : Rat) ^ (q - 1)) * 10633823966279326983230456482242756608
 sh : y = ((2 * k : Rat) + 1) * (2 : Rat) ^ (q - 1) \/ y <= (((2 * k : Rat) + 1) * (2 : Rat) ^ (q - 1) - y) * 10633823966279326983230456482242756608
 sk : k = 4503599627370496 -> -1074 < q -> ((4 * k : Rat) - 1) * (2 : Rat) ^ (q - 2) <= y
def shiftU (u : Nat) : Nat := if u % 2 = 1 then u / 2 / 2 * 2 + 1 else u / 2
theorem half_cast (j : Nat) : ((2 * j : Nat) : Rat) = 2 * j := by simp
theorem unr_shift {u : Nat} {V : Rat} (h : Unr u V) (h0 : 0 < V) (hV : V < 1267650600228229401496703205376) : Unr (shiftU u) (V / 2) := by
 have e : V / 2 * 2 = V := Rat.div_mul_cancel (by decide)
 generalize V / 2 = W at *
 subst e
 unfold shiftU
 by_cases hu : u % 2 = 1
 ·obtain ⟨j, hj⟩ : ∃ j, u = 2 * j + 1 := ⟨u / 2, by omega⟩
  have hj' : (u : Rat) = 2 * j + 1 := by rw [hj]; push_cast; rfl
  have e1 : u / 2 = j := by omega
  rw [if_pos hu, e1]
  have b : (j : Rat) < W /\ W < (j : Rat) + 1 := by
   rcases h with ⟨_, h2, h3⟩ | ⟨h1, h2⟩
   ·constructor <;> grind
   ·constructor <;> grind
  left
  obtain ⟨i, hi⟩ : ∃ i, j / 2 = i := ⟨_, rfl⟩
  rw [hi]
  have c1 : (2 * i : Nat) <= j := by omega
  have c2 : j + 1 <= 2 * i + 2 := by omega
  have c1' : (2 : Rat) * i <= j := by exact_mod_cast c1
  have c2' : (j : Rat) + 1 <= 2 * i + 2 := by exact_mod_cast c2
  have c3 : ((i * 2 + 1 : Nat) : Rat) = 2 * i + 1 := by push_cast; grind
  rw [c3]
  exact ⟨by omega, by grind, by grind⟩
 ·rw [if_neg hu]
  obtain ⟨j, hj⟩ : ∃ j, u = 2 * j := ⟨u / 2, by omega⟩
  have hj' : (u : Rat) = 2 * j := by rw [hj]; push_cast; rfl
  have e1 : u / 2 = j := by omega
  rw [e1]
  right
  rcases h with ⟨h1, _, _⟩ | ⟨h1, h2⟩
  ·omega
  ·constructor <;> grind
theorem lt_of_castr {a b : Nat} (h : (a : Rat) < (b : Rat) + 1 / 2) : a <= b := by
 rcases Nat.lt_or_ge b a with h2 | h2
 ·have : ((b + 1 : Nat) : Rat) <= a := by exact_mod_cast h2
  have e : ((b + 1 : Nat) : Rat) = b + 1 := by push_cast; rfl
  grind
 ·exact h2
theorem rne_at {k u : Nat} {W : Rat} (hk : k < 9007199254740992) (_hk1 : 1 <= k) (_h0 : 0 < W) (hlo : (2 * k : Rat) - 1 <= 2 * W) (hhi : 2 * W <= (2 * k : Rat) + 1)
  (los : (2 * k : Rat) - 1 = 2 * W -> k % 2 = 0) (his : 2 * W = (2 * k : Rat) + 1 -> k % 2 = 0)
  (sl : (2 * k : Rat) - 1 = 2 * W \/ 2 * W <= (2 * W - ((2 * k : Rat) - 1)) * 10633823966279326983230456482242756608)
  (sh : 2 * W = (2 * k : Rat) + 1 \/ 2 * W <= (((2 * k : Rat) + 1) - 2 * W) * 10633823966279326983230456482242756608)
  (h : Unr u (4 * W)) : (u + 1 + u / 4 % 2) / 4 = k := by
 have hk' : (k : Rat) < 9007199254740992 := by exact_mod_cast hk
 obtain ⟨a, r, hr, hu⟩ : ∃ a r, r < 4 /\ u = 4 * a + r := ⟨u / 4, u % 4, by omega, by omega⟩
 have e1 : u / 4 = a := by omega
 rw [e1]
 have kup : ∀ {b : Nat}, (b : Rat) < (k : Rat) + 1 / 2 -> b <= k := fun h => lt_of_castr h
 have kdn : ∀ {b : Nat}, (k : Rat) < (b : Rat) + 1 -> k <= b := by
  intro b hb
  rcases Nat.lt_or_ge b k with g | g
  ·exfalso
   have g' : ((b + 1 : Nat) : Rat) <= k := by exact_mod_cast g
   have ec : ((b + 1 : Nat) : Rat) = b + 1 := by push_cast; rfl
   grind
  ·exact g
 rcases h with ⟨h1, h2, h3⟩ | ⟨h1, h2⟩
 ·have hr2 : r = 1 \/ r = 3 := by omega
  rcases hr2 with rfl | rfl
  ·have hu' : (u : Rat) = 4 * a + 1 := by rw [hu]; push_cast; rfl
   clear sl sh los his
   have a1 : a <= k := by
    rcases Nat.lt_or_ge k a with g | g
    ·exfalso
     have g' : ((k + 1 : Nat) : Rat) <= a := by exact_mod_cast g
     have ec : ((k + 1 : Nat) : Rat) = k + 1 := by push_cast; rfl
     clear kup kdn
     grind
    ·exact g
   have a2 : k <= a := kdn (by clear kup kdn; grind)
   omega
  ·have hu' : (u : Rat) = 4 * a + 3 := by rw [hu]; push_cast; rfl
   clear sl sh los his
   have ec : ((a + 1 : Nat) : Rat) = a + 1 := by push_cast; rfl
   have a1 : a + 1 <= k := by
    have : a < k := by
     rcases Nat.lt_or_ge a k with g | g
     ·exact g
     ·exfalso
      have g' : (k : Rat) <= a := by exact_mod_cast g
      clear kup kdn
      grind
    omega
   have a2 : k <= a + 1 := kdn (by rw [ec]; clear kup kdn; grind)
   omega
 ·have t1 : 4 * W - u < 1 / 1000000 := by grind
  have t2 : (u : Rat) - 4 * W < 1 / 1000000 := by grind
  clear kup kdn
  have hr2 : r = 0 \/ r = 1 \/ r = 2 \/ r = 3 := by omega
  rcases hr2 with rfl | rfl | rfl | rfl
  ·have hu' : (u : Rat) = 4 * a := by rw [hu]; simp
   clear sl sh los his h1 h2
   have a1 : a <= k := by
    rcases Nat.lt_or_ge k a with g | g
    ·exfalso
     have g' : ((k + 1 : Nat) : Rat) <= a := by exact_mod_cast g
     have ec : ((k + 1 : Nat) : Rat) = k + 1 := by push_cast; rfl
     grind
    ·exact g
   have a2 : k <= a := by
    rcases Nat.lt_or_ge a k with g | g
    ·exfalso
     have g' : ((a + 1 : Nat) : Rat) <= k := by exact_mod_cast g
     have ec : ((a + 1 : Nat) : Rat) = a + 1 := by push_cast; rfl
     grind
    ·exact g
   omega
  ·have hu' : (u : Rat) = 4 * a + 1 := by rw [hu]; push_cast; rfl
   clear sl sh los his h1 h2
   have a1 : a <= k := by
    rcases Nat.lt_or_ge k a with g | g
    ·exfalso
     have g' : ((k + 1 : Nat) : Rat) <= a := by exact_mod_cast g
     have ec : ((k + 1 : Nat) : Rat) = k + 1 := by push_cast; rfl
     grind
    ·exact g
   have a2 : k <= a := by
    rcases Nat.lt_or_ge a k with g | g
    ·exfalso
     have g' : ((a + 1 : Nat) : Rat) <= k := by exact_mod_cast g
     have ec : ((a + 1 : Nat) : Rat) = a + 1 := by push_cast; rfl
     grind
    ·exact g
   omega
  ·have hu' : (u : Rat) = 4 * a + 2 := by rw [hu]; push_cast; rfl
   have a1 : a <= k := by
    rcases Nat.lt_or_ge k a with g | g
    ·exfalso
     have g' : ((k + 1 : Nat) : Rat) <= a := by exact_mod_cast g
     have ec : ((k + 1 : Nat) : Rat) = k + 1 := by push_cast; rfl
     grind
    ·exact g
   have a2 : k <= a + 1 := by
    rcases Nat.lt_or_ge (a + 1) k with g | g
    ·exfalso
     have g' : ((a + 2 : Nat) : Rat) <= k := by exact_mod_cast g
     have ec : ((a + 2 : Nat) : Rat) = a + 2 := by push_cast; rfl
     grind
    ·exact g
   rcases Nat.lt_or_ge a k with g | g
   ·have ek : k = a + 1 := by omega
    have ek' : (k : Rat) = a + 1 := by rw [ek]; push_cast; rfl
    have : k % 2 = 0 := by
     apply los
     rcases sl with g | g
     ·exact g
     ·exfalso; grind
    omega
   ·have ek : k = a := by omega
    subst ek
    have : k % 2 = 0 := by
     apply his
     rcases sh with g | g
     ·exact g
     ·exfalso; grind
    omega
  ·have hu' : (u : Rat) = 4 * a + 3 := by rw [hu]; push_cast; rfl
   clear sl sh los his h1 h2
   have a1 : a + 1 <= k := by
    rcases Nat.lt_or_ge a k with g | g
    ·omega
    ·exfalso
     have g' : (k : Rat) <= a := by exact_mod_cast g
     grind
   have a2 : k <= a + 1 := by
    rcases Nat.lt_or_ge (a + 1) k with g | g
    ·exfalso
     have g' : ((a + 2 : Nat) : Rat) <= k := by exact_mod_cast g
     have ec : ((a + 2 : Nat) : Rat) = a + 2 := by push_cast; rfl
     grind
    ·exact g
   omega
theorem two_pos (a : Int) : (0 : Rat) < (2 : Rat) ^ a := Rat.zpow_pos (by decide)
theorem one_le_two_nat (n : Nat) : (1 : Rat) <= (2 : Rat) ^ n := by
 have := Nat.one_le_two_pow (n := n)
 exact_mod_cast this
theorem two_mono {a b : Int} (h : a <= b) : (2 : Rat) ^ a <= (2 : Rat) ^ b := by
 obtain ⟨n, rfl⟩ : ∃ n : Nat, b = a + (n : Int) := ⟨(b - a).toNat, by omega⟩
 rw [Rat.zpow_add (by decide), Rat.zpow_natCast]
 have := Rat.mul_le_mul_of_nonneg_left (one_le_two_nat n) (Rat.le_of_lt (two_pos a))
 grind
theorem two_lt {a b : Int} (h : (2 : Rat) ^ a < (2 : Rat) ^ b) : a < b := by
 rcases Int.lt_or_le a b with g | g
 ·exact g
 ·have := two_mono g; grind
def lpAt (p : Int) : Bool :=
 let lp := p * 108853 / 32768
 Nat.ble (10 ^ (-p).toNat * 2 ^ lp.toNat) (10 ^ p.toNat * 2 ^ (-lp).toNat) && Nat.ble (10 ^ p.toNat * 1048577 * 2 ^ (-(lp + 1)).toNat) (10 ^ (-p).toNat * 1048576 * 2 ^ (lp + 1).toNat)
theorem lp_ok : (List.range 696).all (fun i => lpAt ((i : Int) - 348)) = true := by decide +kernel
theorem lp_at (p : Int) (h1 : -348 <= p) (h2 : p <= 347) : (2 : Rat) ^ (p * 108853 / 32768) <= (10 : Rat) ^ p /\ (10 : Rat) ^ p * 1048577 <= 1048576 * (2 : Rat) ^ (p * 108853 / 32768 + 1) := by
 have h := List.all_eq_true.1 lp_ok (p + 348).toNat (List.mem_range.2 (by omega))
 rw [show (((p + 348).toNat : Nat) : Int) - 348 = p from by omega] at h
 unfold lpAt at h
 simp only [Bool.and_eq_true, Nat.ble_eq] at h
 obtain ⟨g1, g2⟩ := h
 generalize p * 108853 / 32768 = l at *
 have a := zpn 10 (by decide) p
 have b := zpn 2 (by decide) l
 have c := zpn 2 (by decide) (l + 1)
 have d1 : (0 : Rat) < (10 : Rat) ^ (-p).toNat := Rat.pow_pos (by decide)
 have d2 : (0 : Rat) < (2 : Rat) ^ (-l).toNat := Rat.pow_pos (by decide)
 have d3 : (0 : Rat) < (2 : Rat) ^ (-(l + 1)).toNat := Rat.pow_pos (by decide)
 generalize p.toNat = n1 at *
 generalize (-p).toNat = n2 at *
 generalize l.toNat = n3 at *
 generalize (-l).toNat = n4 at *
 generalize (l + 1).toNat = n5 at *
 generalize (-(l + 1)).toNat = n6 at *
 have g1' : (10 : Rat) ^ n2 * (2 : Rat) ^ n3 <= (10 : Rat) ^ n1 * (2 : Rat) ^ n4 := by exact_mod_cast g1
 generalize hc1 : (1048577 : Nat) = c1 at *
 generalize hc2 : (1048576 : Nat) = c2 at *
 have g2' : (10 : Rat) ^ n1 * (c1 : Rat) * (2 : Rat) ^ n6 <= (10 : Rat) ^ n2 * (c2 : Rat) * (2 : Rat) ^ n5 := by exact_mod_cast g2
 have hc1' : (c1 : Rat) = 1048577 := by rw [<- hc1]; rfl
 have hc2' : (c2 : Rat) = 1048576 := by rw [<- hc2]; rfl
 rw [hc1', hc2'] at g2'
 generalize (10 : Rat) ^ p = P at *
 generalize (2 : Rat) ^ l = L at *
 generalize (2 : Rat) ^ (l + 1) = L2 at *
 generalize (10 : Rat) ^ n1 = N1 at *
 generalize (10 : Rat) ^ n2 = N2 at *
 generalize (2 : Rat) ^ n3 = N3 at *
 generalize (2 : Rat) ^ n4 = N4 at *
 generalize (2 : Rat) ^ n5 = N5 at *
 generalize (2 : Rat) ^ n6 = N6 at *
 constructor
 ·refine Rat.le_of_mul_le_mul_right (c := N2 * N4) ?_ (Rat.mul_pos d1 d2)
  have e1 : L * (N2 * N4) = N2 * N3 := by grind
  have e2 : P * (N2 * N4) = N1 * N4 := by grind
  rw [e1, e2]; exact g1'
 ·refine Rat.le_of_mul_le_mul_right (c := N2 * N6) ?_ (Rat.mul_pos d1 d3)
  have e1 : P * 1048577 * (N2 * N6) = N1 * 1048577 * N6 := by grind
  have e2 : 1048576 * L2 * (N2 * N6) = N2 * 1048576 * N5 := by grind
  rw [e1, e2]; exact g2'
theorem tz (a b : Int) : (2 : Rat) ^ (a + b) = (2 : Rat) ^ a * (2 : Rat) ^ b := Rat.zpow_add (by decide) a b
theorem Inn.w {k : Nat} {q : Int} {y : Rat} (h : Inn k q y) : ∃ W : Rat, W = y * (2 : Rat) ^ (-q) /\ 0 < W /\ (2 * k : Rat) - 1 <= 2 * W /\ 2 * W <= (2 * k : Rat) + 1 /\
  ((2 * k : Rat) - 1 = 2 * W -> k % 2 = 0) /\ (2 * W = (2 * k : Rat) + 1 -> k % 2 = 0) /\
  ((2 * k : Rat) - 1 = 2 * W \/ 2 * W <= (2 * W - ((2 * k : Rat) - 1)) * 10633823966279326983230456482242756608) /\
  (2 * W = (2 * k : Rat) + 1 \/ 2 * W <= (((2 * k : Rat) + 1) - 2 * W) * 10633823966279326983230456482242756608) /\
  (k = 4503599627370496 -> -1074 < q -> (4 * k : Rat) - 1 <= 4 * W) := by
 obtain ⟨k1, k2, q1, q2, nm, y0, lo, hi, los, his, sl, sh, sk⟩ := h
 have hG := two_pos (q - 1)
 have e1 : (2 : Rat) ^ (q - 1) * (2 : Rat) ^ (-q) * 2 = 1 := by
  have : (2 : Rat) ^ (q - 1) * (2 : Rat) ^ (-q) * (2 : Rat) ^ (1 : Int) = (2 : Rat) ^ (0 : Int) := by
   rw [<- tz, <- tz]; congr 1; omega
  simpa using this
 have e3 : (2 : Rat) ^ (q - 1) = (2 : Rat) ^ (q - 2) * 2 := by
  have : (2 : Rat) ^ (q - 1) = (2 : Rat) ^ (q - 2) * (2 : Rat) ^ (1 : Int) := by rw [<- tz]; congr 1; omega
  simpa using this
 have hw := Rat.mul_pos y0 (two_pos (-q))
 have e2 : y = 2 * (y * (2 : Rat) ^ (-q)) * (2 : Rat) ^ (q - 1) := by grind
 refine ⟨_, rfl, hw, ?_⟩
 have hG2 := two_pos (q - 2)
 generalize y * (2 : Rat) ^ (-q) = W at *
 generalize (2 : Rat) ^ (q - 2) = G2 at *
 generalize (2 : Rat) ^ (q - 1) = G at *
 clear e1 y0
 subst e2
 have can : ∀ {a b : Rat}, a * G <= b * G -> a <= b := fun h => Rat.le_of_mul_le_mul_right h hG
 refine ⟨can lo, can hi, fun h => los (by rw [h]), fun h => his (by rw [h]), ?_, ?_, ?_⟩
 ·rcases sl with g | g
  ·left
   have a := can (a := (2 * k : Rat) - 1) (b := 2 * W) (by rw [g]; exact Rat.le_refl)
   have b := can (a := 2 * W) (b := (2 * k : Rat) - 1) (by rw [g]; exact Rat.le_refl)
   exact Rat.le_antisymm a b
  ·right
   exact can (by grind)
 ·rcases sh with g | g
  ·left
   have a := can (a := (2 * k : Rat) + 1) (b := 2 * W) (by rw [g]; exact Rat.le_refl)
   have b := can (a := 2 * W) (b := (2 * k : Rat) + 1) (by rw [g]; exact Rat.le_refl)
   exact Rat.le_antisymm b a
  ·right
   exact can (by grind)
 ·intro g1 g2
  have := sk g1 g2
  rw [e3] at this
  refine Rat.le_of_mul_le_mul_right (c := G2) ?_ hG2
  grind
theorem parse_at {k : Nat} {q : Int} {y : Rat} (h : Inn k q y) (d : Nat) (p : Int) (hd : d ≠ 0) (hd2 : d < 18446744073709551616) (hp1 : -348 <= p) (hp2 : p <= 347) (hy : y = (d : Rat) * (10 : Rat) ^ p) :
  parseN d p = some (k, q) := by
 obtain ⟨W, hW, w0, wlo, whi, wlos, whis, wsl, wsh, wsk⟩ := h.w
 obtain ⟨k1, k2, q1, q2, nm, y0, lo, -, -, -, -, -, -⟩ := h
 have k2' : (k : Rat) + 1 <= 9007199254740992 := by exact_mod_cast k2
 have k1' : (1 : Rat) <= k := by exact_mod_cast k1
 obtain ⟨l1, l2⟩ := lp_at p hp1 hp2
 have b1 := blen_lt d
 have b2 := blen_le d hd
 have b3 := blen_pos d hd
 have b4 := blen_64 d hd2
 obtain ⟨x1, x2⟩ := norm_x d hd hd2
 unfold parseN
 simp only []
 obtain ⟨b, hb⟩ : ∃ b, blen d = b := ⟨_, rfl⟩
 rw [hb] at b1 b2 b3 b4 x1 x2 ⊢
 obtain ⟨l, hl⟩ : ∃ l, p * 108853 / 32768 = l := ⟨_, rfl⟩
 rw [hl] at l1 l2 ⊢
 have d1 : (d : Rat) + 1 <= (2 : Rat) ^ (b : Int) := by rw [Rat.zpow_natCast]; exact_mod_cast b1
 have d2 : (2 : Rat) ^ ((b : Int) - 1) <= d := by
  rw [show (b : Int) - 1 = ((b - 1 : Nat) : Int) from by omega, Rat.zpow_natCast]; exact_mod_cast b2
 have hd0 : (0 : Rat) < d := by exact_mod_cast Nat.pos_of_ne_zero hd
 have y1 : (2 : Rat) ^ ((b : Int) - 1 + l) <= y := by
  rw [hy, tz]
  have u1 := Rat.mul_le_mul_of_nonneg_right d2 (Rat.le_of_lt (two_pos l))
  have u2 := Rat.mul_le_mul_of_nonneg_left l1 (Rat.le_of_lt hd0)
  exact Rat.le_trans u1 u2
 have y2 : y * 1048577 <= 1048576 * (2 : Rat) ^ ((b : Int) + (l + 1)) := by
  rw [hy, tz]
  have u1 := Rat.mul_le_mul_of_nonneg_left l2 (Rat.le_of_lt hd0)
  have u2 := Rat.mul_le_mul_of_nonneg_right (show (d : Rat) <= (2 : Rat) ^ (b : Int) by grind) (Rat.le_of_lt (two_pos (l + 1)))
  grind
 obtain ⟨e0, he0⟩ : ∃ e0, min 1074 (53 - (b : Int) - l) = e0 := ⟨_, rfl⟩
 rw [he0]
 have hlow : (2 : Rat) ^ (-1075 : Int) <= y := by
  have u1 := two_mono (show (-1075 : Int) <= q - 1 by omega)
  have u2 := Rat.mul_le_mul_of_nonneg_right (show (1 : Rat) <= (2 * k : Rat) - 1 by grind) (Rat.le_of_lt (two_pos (q - 1)))
  grind
 have hbl : -1075 < (b : Int) + (l + 1) := by
  apply two_lt
  have := two_pos ((b : Int) + (l + 1))
  grind
 have hs : -(e0 - (64 - (b : Int)) + l + 3) = sOf (e0 - (64 - (b : Int))) p := by unfold sOf; rw [hl]
 have hsb : 8 <= sOf (e0 - (64 - (b : Int))) p /\ sOf (e0 - (64 - (b : Int))) p <= 62 := by rw [<- hs]; omega
 rw [hs, if_neg (by omega)]
 have hu := usc_val (d * 2 ^ (64 - b)) (e0 - (64 - (b : Int))) p (by omega) x2 hp1 hp2 (by omega)
 have hV : ((d * 2 ^ (64 - b) : Nat) : Rat) * (2 : Rat) ^ (e0 - (64 - (b : Int)) + 2) * (10 : Rat) ^ p = 4 * (y * (2 : Rat) ^ e0) := by
  rw [hy, Rat.natCast_mul, Rat.natCast_pow]
  have e1 : ((2 : Nat) : Rat) ^ (64 - b) = (2 : Rat) ^ ((64 - b : Nat) : Int) := by rw [Rat.zpow_natCast]; rfl
  rw [e1]
  have e2 : (2 : Rat) ^ ((64 - b : Nat) : Int) * (2 : Rat) ^ (e0 - (64 - (b : Int)) + 2) = (2 : Rat) ^ e0 * (2 : Rat) ^ (2 : Int) := by
   rw [<- tz, <- tz]; congr 1; omega
  have e3 : (2 : Rat) ^ (2 : Int) = 4 := rfl
  rw [e3] at e2
  grind
 rw [hV] at hu
 generalize uscaleN (d * 2 ^ (64 - b)) (hiAt p) (loAt p) (sOf (e0 - (64 - (b : Int))) p).toNat = u at *
 have v1 : y * (2 : Rat) ^ e0 * 1048577 <= 1048576 * 18014398509481984 := by
  have u1 := Rat.mul_le_mul_of_nonneg_right y2 (Rat.le_of_lt (two_pos e0))
  have u2 : (2 : Rat) ^ ((b : Int) + (l + 1)) * (2 : Rat) ^ e0 <= (2 : Rat) ^ (54 : Int) := by rw [<- tz]; exact two_mono (by omega)
  have u3 : (2 : Rat) ^ (54 : Int) = 18014398509481984 := rfl
  rw [u3] at u2
  grind
 have v2 : e0 = 1074 \/ 4503599627370496 <= y * (2 : Rat) ^ e0 := by
  by_cases g : e0 = 1074
  ·exact .inl g
  ·right
   have u1 := Rat.mul_le_mul_of_nonneg_right y1 (Rat.le_of_lt (two_pos e0))
   have u2 : (2 : Rat) ^ ((b : Int) - 1 + l) * (2 : Rat) ^ e0 = (2 : Rat) ^ (52 : Int) := by rw [<- tz]; congr 1; omega
   have u3 : (2 : Rat) ^ (52 : Int) = 4503599627370496 := rfl
   rw [u2, u3] at u1
   exact u1
 have vz := Rat.mul_pos y0 (two_pos e0)
 have ht : y * (2 : Rat) ^ e0 = W * (2 : Rat) ^ (e0 + q) := by
  rw [hW]
  have : (2 : Rat) ^ (-q) * (2 : Rat) ^ (e0 + q) = (2 : Rat) ^ e0 := by rw [<- tz]; congr 1; omega
  rw [<- this]; grind
 rw [ht] at hu v1 v2 vz
 have e01 : e0 <= 1074 := by omega
 clear hy y1 y2 hlow hV d1 d2 l1 l2 lo ht
 have tcase : e0 + q < 0 \/ e0 + q = 0 \/ e0 + q = 1 \/ 2 <= e0 + q := by omega
 have skw : -1074 < q -> (18014398509481983 : Rat) <= 4 * W := by
  intro hq
  have hk : 4503599627370496 <= k := by omega
  by_cases g : k = 4503599627370496
  ·have := wsk g hq
   have g' : (k : Rat) = 4503599627370496 := by rw [g]; rfl
   grind
  ·have g2 : 4503599627370497 <= k := by omega
   have g' : (4503599627370497 : Rat) <= k := by exact_mod_cast g2
   grind
 rcases tcase with g | g | g | g
 ·exfalso
  have u1 : (2 : Rat) ^ (e0 + q) <= (2 : Rat) ^ (-1 : Int) := two_mono (by omega)
  have u3 : (2 : Rat) ^ (-1 : Int) * 2 = 1 := by
   have : (2 : Rat) ^ (-1 : Int) * (2 : Rat) ^ (1 : Int) = (2 : Rat) ^ (0 : Int) := by rw [<- tz]; congr 1
   simpa using this
  generalize (2 : Rat) ^ (-1 : Int) = hf at u1 u3
  have u4 := Rat.mul_le_mul_of_nonneg_left u1 (Rat.le_of_lt w0)
  rcases v2 with v2 | v2
  ·omega
  ·clear wsl wsh wlos whis hu wsk skw vz v1
   generalize W * (2 : Rat) ^ (e0 + q) = Z at *
   have u5 : W * hf * 2 = W := by rw [Rat.mul_assoc, u3, Rat.mul_one]
   generalize W * hf = Z2 at *
   grind
 ·
  rw [g, Rat.zpow_zero, Rat.mul_one] at hu v1 v2 vz
  have hlt : ¬ 36028797018963966 <= u := by
   intro hge
   rcases hu with ⟨o1, o2, o3⟩ | ⟨o1, o2⟩
   ·have h1 : 36028797018963967 <= u := by omega
    have h1' : (36028797018963967 : Rat) <= u := by exact_mod_cast h1
    clear wsl wsh wlos whis
    grind
   ·have h1' : (36028797018963966 : Rat) <= u := by exact_mod_cast hge
    have hk : k = 9007199254740991 := by
     rcases Nat.lt_or_ge k 9007199254740991 with g3 | g3
     ·exfalso
      have g3' : (k : Rat) + 1 <= 9007199254740991 := by exact_mod_cast g3
      clear wsl wsh wlos whis
      grind
     ·omega
    have hk' : (k : Rat) = 9007199254740991 := by rw [hk]; rfl
    rcases wsh with g3 | g3
    ·have := whis g3
     omega
    ·clear wsl wlos whis
     grind
  rw [if_neg hlt, if_neg hlt]
  have := rne_at k2 k1 w0 wlo whi wlos whis wsl wsh hu
  rw [this, show -e0 = q from by omega]
 ·
  have u3 : (2 : Rat) ^ (1 : Int) = 2 := rfl
  rw [g, u3] at hu v1 v2 vz
  have hk := skw (by omega)
  have hge : 36028797018963966 <= u := by
   rcases Nat.lt_or_ge u 36028797018963966 with g3 | g3
   ·exfalso
    have g3' : (u : Rat) + 1 <= 36028797018963966 := by exact_mod_cast g3
    clear wsl wsh wlos whis wsk
    rcases hu with ⟨o1, o2, o3⟩ | ⟨o1, o2⟩
    ·grind
    ·grind
   ·exact g3
  rw [if_pos hge, if_pos hge]
  have hu' := unr_shift hu (by grind) (by grind)
  have e5 : 4 * (W * 2) / 2 = 4 * W := by
   rw [show 4 * (W * 2) = (4 * W) * 2 from by grind]; exact Rat.mul_div_cancel (by decide)
  rw [e5] at hu'
  have := rne_at k2 k1 w0 wlo whi wlos whis wsl wsh hu'
  unfold shiftU at this
  rw [this, show -(e0 - 1) = q from by omega]
 ·exfalso
  have hk := skw (by omega)
  have u1 : (2 : Rat) ^ (2 : Int) <= (2 : Rat) ^ (e0 + q) := two_mono (by omega)
  have u3 : (2 : Rat) ^ (2 : Int) = 4 := rfl
  rw [u3] at u1
  have u4 := Rat.mul_le_mul_of_nonneg_left u1 (Rat.le_of_lt w0)
  clear wsl wsh wlos whis hu
  grind
def skOk (q : Int) : Bool :=
 let r := shortN 9223372036854775808 (q - 11)
 let Y := r.1 * 10 ^ r.2.toNat * 2 ^ (2 - q).toNat
 let S := 10 ^ (-r.2).toNat * 2 ^ (q - 2).toNat
 Nat.ble 1 Y && Nat.ble (18014398509481983 * S) Y && Nat.ble Y (18014398509481986 * S) && (Nat.beq Y (18014398509481986 * S) || Nat.ble Y ((18014398509481986 * S - Y) * 10633823966279326983230456482242756608))
theorem sk_ok : (List.range 2045).all (fun i => skOk ((i : Int) - 1073)) = true := by decide +kernel
def gAt (q : Int) : Bool :=
 let l := Fl.log10Pow2 q
 let N := 2 ^ (q - 1).toNat * 10 ^ (-l).toNat
 let D := 2 ^ (1 - q).toNat * 10 ^ l.toNat
 Nat.ble D (2 * N) && Nat.blt N (5 * D)
theorem g_ok : (List.range 2046).all (fun i => gAt ((i : Int) - 1074)) = true := by decide +kernel
theorem g_at (q : Int) (h1 : -1074 <= q) (h2 : q <= 971) : 1 <= 2 * ((2 : Rat) ^ (q - 1) * (10 : Rat) ^ (-Fl.log10Pow2 q)) /\ (2 : Rat) ^ (q - 1) * (10 : Rat) ^ (-Fl.log10Pow2 q) < 5 := by
 have h := List.all_eq_true.1 g_ok (q + 1074).toNat (List.mem_range.2 (by omega))
 rw [show (((q + 1074).toNat : Nat) : Int) - 1074 = q from by omega] at h
 unfold gAt at h
 simp only [Bool.and_eq_true, Nat.ble_eq, Nat.blt_eq] at h
 obtain ⟨g1, g2⟩ := h
 generalize Fl.log10Pow2 q = l at *
 have a := zpn 2 (by decide) (q - 1)
 rw [show -(q - 1) = 1 - q from by omega] at a
 have b := zpn 10 (by decide) (-l)
 rw [Int.neg_neg] at b
 have d1 : (0 : Rat) < (10 : Rat) ^ l.toNat := Rat.pow_pos (by decide)
 have d2 : (0 : Rat) < (2 : Rat) ^ (1 - q).toNat := Rat.pow_pos (by decide)
 generalize (q - 1).toNat = n1 at *
 generalize (1 - q).toNat = n2 at *
 generalize (-l).toNat = n3 at *
 generalize l.toNat = n4 at *
 have g1' : (2 : Rat) ^ n2 * (10 : Rat) ^ n4 <= 2 * ((2 : Rat) ^ n1 * (10 : Rat) ^ n3) := by exact_mod_cast g1
 have g2' : (2 : Rat) ^ n1 * (10 : Rat) ^ n3 < 5 * ((2 : Rat) ^ n2 * (10 : Rat) ^ n4) := by exact_mod_cast g2
 generalize (2 : Rat) ^ (q - 1) = P at *
 generalize (10 : Rat) ^ (-l) = T at *
 generalize (2 : Rat) ^ n1 = N1 at *
 generalize (2 : Rat) ^ n2 = N2 at *
 generalize (10 : Rat) ^ n3 = N3 at *
 generalize (10 : Rat) ^ n4 = N4 at *
 have e : P * T * (N2 * N4) = N1 * N3 := by grind
 constructor
 ·refine Rat.le_of_mul_le_mul_right (c := N2 * N4) ?_ (Rat.mul_pos d2 d1)
  grind
 ·refine Rat.lt_of_mul_lt_mul_right (c := N2 * N4) ?_ (Rat.le_of_lt (Rat.mul_pos d2 d1))
  grind
def CutV (u : Nat) (v : Rat) : Prop := ∃ a : Nat, (v = a /\ u = 4 * a) \/ ((a : Rat) < v /\ v < (a : Rat) + 1 /\ 4 * a + 1 <= u /\ u <= 4 * a + 3)
theorem cutv {u : Nat} {v : Rat} (_h0 : 0 < v) (hv : v < 144115188075855872) (hg : ∀ D : Nat, v = D \/ 1 <= (v - D) * 73786976294838206464 \/ 1 <= (D - v) * 73786976294838206464) (h : Unr u (4 * v)) : CutV u v := by
 obtain ⟨a, r, hr, hu⟩ : ∃ a r, r < 4 /\ u = 4 * a + r := ⟨u / 4, u % 4, by omega, by omega⟩
 refine ⟨a, ?_⟩
 rcases h with ⟨h1, h2, h3⟩ | ⟨h1, h2⟩
 ·right
  have hr2 : r = 1 \/ r = 3 := by omega
  rcases hr2 with rfl | rfl
  ·have hu' : (u : Rat) = 4 * a + 1 := by rw [hu]; push_cast; rfl
   exact ⟨by grind, by grind, by omega, by omega⟩
  ·have hu' : (u : Rat) = 4 * a + 3 := by rw [hu]; push_cast; rfl
   exact ⟨by grind, by grind, by omega, by omega⟩
 ·have hr2 : r = 0 \/ r = 1 \/ r = 2 \/ r = 3 := by omega
  have h1' : v < 144115188075855872 := hv
  rcases hr2 with rfl | rfl | rfl | rfl
  ·left
   have hu' : (u : Rat) = 4 * a := by rw [hu]; simp
   refine ⟨?_, by omega⟩
   rcases hg a with g | g | g
   ·exact g
   ·exfalso; grind
   ·exfalso; grind
  ·right
   have hu' : (u : Rat) = 4 * a + 1 := by rw [hu]; push_cast; rfl
   exact ⟨by grind, by grind, by omega, by omega⟩
  ·right
   have hu' : (u : Rat) = 4 * a + 2 := by rw [hu]; push_cast; rfl
   exact ⟨by grind, by grind, by omega, by omega⟩
  ·right
   have hu' : (u : Rat) = 4 * a + 3 := by rw [hu]; push_cast; rfl
   exact ⟨by grind, by grind, by omega, by omega⟩
theorem le_of_lt1 {x y : Nat} (h : (x : Rat) < (y : Rat) + 1) : x <= y := by
 rcases Nat.lt_or_ge y x with g | g
 ·exfalso
  have g' : ((y + 1 : Nat) : Rat) <= x := by exact_mod_cast g
  have ec : ((y + 1 : Nat) : Rat) = y + 1 := by push_cast; rfl
  grind
 ·exact g
theorem nsub1 {b : Nat} (h : 1 <= b) : ((b - 1 : Nat) : Rat) = b - 1 := by
 obtain ⟨c, rfl⟩ : ∃ c, b = c + 1 := ⟨b - 1, by omega⟩
 have : ((c + 1 : Nat) : Rat) = c + 1 := by push_cast; rfl
 rw [this, Nat.add_sub_cancel]; grind
theorem nadd1 (b : Nat) : ((b + 1 : Nat) : Rat) = b + 1 := by push_cast; rfl
theorem dmin_at {u o : Nat} {L : Rat} (ho : o <= 1) (h : CutV u L) : ∃ d : Nat, (u + o + 3) / 4 = d /\ L <= d /\ (o = 1 -> L < d) /\ (o = 0 -> (d : Rat) < L + 1) /\ (d : Rat) <= L + 1 := by
 refine ⟨_, rfl, ?_⟩
 obtain ⟨a, ⟨h1, h2⟩ | ⟨h1, h2, h3, h4⟩⟩ := h
 ·rcases (show o = 0 \/ o = 1 by omega) with rfl | rfl
  ·rw [show (u + 0 + 3) / 4 = a from by omega]
   exact ⟨by grind, by grind, by grind, by grind⟩
  ·rw [show (u + 1 + 3) / 4 = a + 1 from by omega, nadd1]
   exact ⟨by grind, by grind, by grind, by grind⟩
 ·have : (u + o + 3) / 4 = a + 1 := by omega
  rw [this, nadd1]
  exact ⟨by grind, by grind, by grind, by grind⟩
theorem dmax_at {u o : Nat} {H : Rat} (ho : o <= 1) (h0 : 0 < H) (h : CutV u H) : ∃ d : Nat, (u - o) / 4 = d /\ (d : Rat) <= H /\ (o = 1 -> (d : Rat) < H) /\ (o = 0 -> H < (d : Rat) + 1) /\ H <= (d : Rat) + 1 := by
 refine ⟨_, rfl, ?_⟩
 obtain ⟨a, ⟨h1, h2⟩ | ⟨h1, h2, h3, h4⟩⟩ := h
 ·have ha : 1 <= a := by
   rcases Nat.eq_zero_or_pos a with g | g
   ·exfalso
    subst g
    have : ((0 : Nat) : Rat) = 0 := rfl
    grind
   ·exact g
  rcases (show o = 0 \/ o = 1 by omega) with rfl | rfl
  ·rw [show (u - 0) / 4 = a from by omega]
   exact ⟨by grind, by grind, by grind, by grind⟩
  ·rw [show (u - 1) / 4 = a - 1 from by omega, nsub1 ha]
   exact ⟨by grind, by grind, by grind, by grind⟩
 ·have : (u - o) / 4 = a := by omega
  rw [this]
  exact ⟨by grind, by grind, by grind, by grind⟩
theorem pick_at {ul uh um k o : Nat} {g : Rat} (hk : 1 <= k) (ho : k % 2 = o) (hl : CutV ul (((2 * k : Rat) - 1) * g)) (hh : CutV uh (((2 * k : Rat) + 1) * g)) (hm : CutV um ((2 * k : Rat) * g)) (hg : 1 <= 2 * g) :
  ∃ dmin dmax : Nat, (ul + o + 3) / 4 = dmin /\ (uh - o) / 4 = dmax /\ dmin <= dmax /\ (dmin < dmax -> dmin <= (um + 1 + um / 4 % 2) / 4 /\ (um + 1 + um / 4 % 2) / 4 <= dmax) /\
   (((2 * k : Rat) - 1) * g <= dmin) /\ (((2 * k : Rat) - 1) * g = dmin -> k % 2 = 0) /\ ((dmax : Rat) <= ((2 * k : Rat) + 1) * g) /\ ((dmax : Rat) = ((2 * k : Rat) + 1) * g -> k % 2 = 0) /\ (1 <= dmin) := by
 have k1 : (1 : Rat) <= k := by exact_mod_cast hk
 have hkg : g <= k * g := by
  have := Rat.mul_le_mul_of_nonneg_right k1 (show (0 : Rat) <= g by grind)
  grind
 obtain ⟨dmin, e1, a1, a2, a3, a4⟩ := dmin_at (o := o) (by omega) hl
 obtain ⟨dmax, e2, b1, b2, b3, b4⟩ := dmax_at (o := o) (by omega) (by grind) hh
 refine ⟨dmin, dmax, e1, e2, ?_, ?_, a1, ?_, b1, ?_, ?_⟩
 ·rcases (show o = 0 \/ o = 1 by omega) with g1 | g1
  ·have := a3 g1
   have := b3 g1
   exact le_of_lt1 (by grind)
  ·rcases Nat.lt_or_ge dmax dmin with g2 | g2
   ·exfalso
    have g2' : ((dmax + 1 : Nat) : Rat) <= dmin := by exact_mod_cast g2
    rw [nadd1] at g2'
    have hd : 1 <= dmin := by omega
    have hg2 : 2 * g = 1 := by grind
    have f1 : (2 * k : Rat) - 1 = 2 * ((dmin : Rat) - 1) := by grind
    have f2 : ((2 * k + 1 : Nat) : Rat) = ((2 * dmin : Nat) : Rat) := by push_cast; grind
    have f3 : 2 * k + 1 = 2 * dmin := by exact_mod_cast f2
    omega
   ·exact g2
 ·intro hlt
  have hlt' : ((dmin + 1 : Nat) : Rat) <= dmax := by exact_mod_cast hlt
  rw [nadd1] at hlt'
  have m1 : (dmin : Rat) <= (2 * k : Rat) * g := by clear a2 a3 b2 b3; grind
  have m2 : (2 * k : Rat) * g <= dmax := by clear a2 a3 b2 b3; grind
  obtain ⟨c, ⟨h1, h2⟩ | ⟨h1, h2, h3, h4⟩⟩ := hm
  ·rw [h1] at m1 m2
   have n1 : dmin <= c := by exact_mod_cast m1
   have n2 : c <= dmax := by exact_mod_cast m2
   omega
  ·have n1 : dmin <= c := le_of_lt1 (by clear a2 a3 b2 b3; grind)
   have n2 : c + 1 <= dmax := by
    rcases Nat.lt_or_ge c dmax with g2 | g2
    ·exact g2
    ·exfalso
     have g2' : (dmax : Rat) <= c := by exact_mod_cast g2
     clear a2 a3 b2 b3; grind
   omega
 ·intro h
  rcases (show o = 0 \/ o = 1 by omega) with g1 | g1
  ·omega
  ·have := a2 g1; grind
 ·intro h
  rcases (show o = 0 \/ o = 1 by omega) with g1 | g1
  ·omega
  ·have := b2 g1; grind
 ·rcases Nat.eq_zero_or_pos dmin with g1 | g1
  ·exfalso
   rw [g1] at a1
   have : ((0 : Nat) : Rat) = 0 := rfl
   clear a2 a3 b2 b3
   grind
  ·exact g1
theorem inn_skew (q : Int) (h1 : -1074 < q) (h2 : q <= 971) : Inn 4503599627370496 q (((shortN 9223372036854775808 (q - 11)).1 : Rat) * (10 : Rat) ^ (shortN 9223372036854775808 (q - 11)).2) := by
 have h := List.all_eq_true.1 sk_ok (q + 1073).toNat (List.mem_range.2 (by omega))
 rw [show (((q + 1073).toNat : Nat) : Int) - 1073 = q from by omega] at h
 unfold skOk at h
 generalize shortN 9223372036854775808 (q - 11) = r at *
 obtain ⟨d, p⟩ := r
 simp only [Bool.and_eq_true, Bool.or_eq_true, Nat.ble_eq] at h
 dsimp only
 obtain ⟨⟨⟨g0, g1⟩, g2⟩, g3⟩ := h
 have a := zpn 10 (by decide) p
 have b := zpn 2 (by decide) (q - 2)
 rw [show -(q - 2) = 2 - q from by omega] at b
 have d1 : (0 : Rat) < (10 : Rat) ^ (-p).toNat := Rat.pow_pos (by decide)
 have d2 : (0 : Rat) < (2 : Rat) ^ (2 - q).toNat := Rat.pow_pos (by decide)
 have hG := two_pos (q - 2)
 have e3 : (2 : Rat) ^ (q - 1) = (2 : Rat) ^ (q - 2) * 2 := by
  have : (2 : Rat) ^ (q - 1) = (2 : Rat) ^ (q - 2) * (2 : Rat) ^ (1 : Int) := by rw [<- tz]; congr 1; omega
  simpa using this
 have hT : (0 : Rat) < (10 : Rat) ^ p := Rat.zpow_pos (by decide)
 generalize p.toNat = n1 at *
 generalize (-p).toNat = n2 at *
 generalize (2 - q).toNat = n3 at *
 generalize (q - 2).toNat = n4 at *
 have hY : (((d * 10 ^ n1 * 2 ^ n3 : Nat)) : Rat) = (d : Rat) * (10 : Rat) ^ n1 * (2 : Rat) ^ n3 := by push_cast; rfl
 have hS : (((10 ^ n2 * 2 ^ n4 : Nat)) : Rat) = (10 : Rat) ^ n2 * (2 : Rat) ^ n4 := by push_cast; rfl
 generalize d * 10 ^ n1 * 2 ^ n3 = Y at *
 generalize 10 ^ n2 * 2 ^ n4 = S at *
 have kS : ∀ (c : Nat) (c' : Rat), ((c : Nat) : Rat) = c' -> ((c * S : Nat) : Rat) = c' * S := by intro c c' h; rw [Rat.natCast_mul, h]
 have w1 : (18014398509481983 : Rat) * S <= Y := by
  have := kS 18014398509481983 18014398509481983 rfl
  rw [<- this]
  generalize 18014398509481983 * S = Z at *
  exact_mod_cast g1
 have w2 : (Y : Rat) <= 18014398509481986 * S := by
  have := kS 18014398509481986 18014398509481986 rfl
  rw [<- this]
  generalize 18014398509481986 * S = Z at *
  exact_mod_cast g2
 have w0 : (1 : Rat) <= Y := by exact_mod_cast g0
 have w3 : (Y : Rat) = 18014398509481986 * S \/ (Y : Rat) <= (18014398509481986 * S - Y) * 10633823966279326983230456482242756608 := by
  have := kS 18014398509481986 18014398509481986 rfl
  rw [<- this]
  generalize 18014398509481986 * S = Z at *
  rcases g3 with g3 | g3
  ·left; rw [Nat.eq_of_beq_eq_true g3]
  ·right
   obtain ⟨D, hD⟩ : ∃ D, D + Y = Z := ⟨Z - Y, by omega⟩
   have hD' : (D : Rat) + Y = Z := by exact_mod_cast hD
   rw [show Z - Y = D from by omega] at g3
   generalize hc : (10633823966279326983230456482242756608 : Nat) = c at g3
   have hc' : (c : Rat) = 10633823966279326983230456482242756608 := by rw [<- hc]; rfl
   have g3' : (Y : Rat) <= D * (c : Rat) := by exact_mod_cast g3
   rw [hc'] at g3'
   grind
 clear g0 g1 g2 g3 kS
 have ex : ((4503599627370496 : Nat) : Rat) = 4503599627370496 := rfl
 obtain ⟨y, hy⟩ : ∃ y, (d : Rat) * (10 : Rat) ^ p = y := ⟨_, rfl⟩
 rw [hy]
 obtain ⟨c, hc, hc0⟩ : ∃ c : Rat, c = (10 : Rat) ^ n2 * (2 : Rat) ^ n3 /\ 0 < c := ⟨_, rfl, Rat.mul_pos d1 d2⟩
 have f1 : y * c = Y := by rw [hY, hc, <- hy]; grind
 have f2 : (2 : Rat) ^ (q - 2) * c = S := by rw [hS, hc]; grind
 generalize hGe : (2 : Rat) ^ (q - 2) = G at *
 have can : ∀ {a b : Rat}, a * c <= b * c -> a <= b := fun h => Rat.le_of_mul_le_mul_right h hc0
 rw [<- f1, <- f2] at w1 w2 w3
 rw [<- f1] at w0
 have y1 : 18014398509481983 * G <= y := can (by grind)
 have y2 : y <= 18014398509481986 * G := can (by grind)
 refine ⟨by decide, by decide, by omega, h2, .inl (by decide), ?_, ?_, ?_, fun _ => by decide, fun _ => by decide, ?_, ?_, ?_⟩
 ·grind
 ·rw [e3, ex]; grind
 ·rw [e3, ex]; grind
 ·right; rw [e3, ex]; grind
 ·rcases w3 with w3 | w3
  ·left
   have a1 := can (a := y) (b := 18014398509481986 * G) (by grind)
   have a2 := can (a := 18014398509481986 * G) (b := y) (by grind)
   rw [e3, ex]; grind
  ·right
   rw [e3, ex]
   exact can (by grind)
 ·intro _ _
  rw [ex, hGe]; clear can w3; grind
theorem inn_plain {k : Nat} {q : Int} {P : Int} (k1 : 1 <= k) (k2 : k < 9007199254740992) (q1 : -1074 <= q) (q2 : q <= 971) (nm : 4503599627370496 <= k \/ q = -1074) (hsk : ¬ (k = 4503599627370496 /\ -1074 < q)) (hP : P = -Fl.log10Pow2 q)
  {D : Nat} (hD : 1 <= D) (lo : ((2 * k : Rat) - 1) * ((2 : Rat) ^ (q - 1) * (10 : Rat) ^ P) <= D) (los : ((2 * k : Rat) - 1) * ((2 : Rat) ^ (q - 1) * (10 : Rat) ^ P) = D -> k % 2 = 0)
  (hi : (D : Rat) <= ((2 * k : Rat) + 1) * ((2 : Rat) ^ (q - 1) * (10 : Rat) ^ P)) (his : (D : Rat) = ((2 * k : Rat) + 1) * ((2 : Rat) ^ (q - 1) * (10 : Rat) ^ P) -> k % 2 = 0) {y : Rat} (hy : y * (10 : Rat) ^ P = D) : Inn k q y := by
 subst hP
 have gl := Fl.gap_rat q q1 q2 (2 * k - 1 : Nat) D (by omega) (by omega)
 have gh := Fl.gap_rat q q1 q2 (2 * k + 1 : Nat) D (by omega) (by omega)
 obtain ⟨g1, g2⟩ := g_at q q1 q2
 have el : (((2 * k - 1 : Nat) : Int) : Rat) = (2 * k : Rat) - 1 := by
  have : (((2 * k - 1 : Nat) : Int) : Rat) = ((2 * k - 1 : Nat) : Rat) := rfl
  rw [this, nsub1 (by omega)]; push_cast; rfl
 have eh : (((2 * k + 1 : Nat) : Int) : Rat) = (2 * k : Rat) + 1 := by
  have : (((2 * k + 1 : Nat) : Int) : Rat) = ((2 * k + 1 : Nat) : Rat) := rfl
  rw [this, nadd1]; push_cast; rfl
 have ed : ((D : Int) : Rat) = (D : Rat) := rfl
 rw [el, ed] at gl
 rw [eh, ed] at gh
 have k2' : (k : Rat) + 1 <= 9007199254740992 := by exact_mod_cast k2
 have k1' : (1 : Rat) <= k := by exact_mod_cast k1
 have hD' : (1 : Rat) <= D := by exact_mod_cast hD
 have hT : (0 : Rat) < (10 : Rat) ^ (-Fl.log10Pow2 q) := Rat.zpow_pos (by decide)
 have hG := two_pos (q - 1)
 have bd : ((2 * k : Rat) + 1) * ((2 : Rat) ^ (q - 1) * (10 : Rat) ^ (-Fl.log10Pow2 q)) < 144115188075855872 := by
  have u1 := Rat.mul_le_mul_of_nonneg_right (show (2 * k : Rat) + 1 <= 18014398509481983 by grind) (show (0 : Rat) <= (2 : Rat) ^ (q - 1) * (10 : Rat) ^ (-Fl.log10Pow2 q) by grind)
  clear gl gh los his
  grind
 generalize (10 : Rat) ^ (-Fl.log10Pow2 q) = T at *
 generalize hGe : (2 : Rat) ^ (q - 1) = G at *
 have can : ∀ {a b : Rat}, a * T <= b * T -> a <= b := fun h => Rat.le_of_mul_le_mul_right h hT
 refine ⟨k1, k2, q1, q2, nm, ?_, ?_, ?_, ?_, ?_, ?_, ?_, ?_⟩
 ·refine (Rat.mul_pos_iff_of_pos_right hT).1 ?_
  clear can; grind
 ·rw [hGe]; refine can ?_; clear can gl gh los his; grind
 ·rw [hGe]; refine can ?_; clear can gl gh los his; grind
 ·rw [hGe]; intro h; exact los (by rw [<- hy, <- h]; grind)
 ·rw [hGe]; intro h; exact his (by rw [<- hy, h]; grind)
 ·rw [hGe]
  rcases gl with g | g | g
  ·left
   have a1 := can (a := ((2 * k : Rat) - 1) * G) (b := y) (by clear can gh los his; grind)
   have a2 := can (a := y) (b := ((2 * k : Rat) - 1) * G) (by clear can gh los his; grind)
   exact Rat.le_antisymm a1 a2
  ·exfalso; clear can gh los his; grind
  ·right
   refine can ?_; clear can gh los his; grind
 ·rw [hGe]
  rcases gh with g | g | g
  ·left
   have a1 := can (a := ((2 * k : Rat) + 1) * G) (b := y) (by clear can gl los his; grind)
   have a2 := can (a := y) (b := ((2 * k : Rat) + 1) * G) (by clear can gl los his; grind)
   exact Rat.le_antisymm a2 a1
  ·right
   refine can ?_; clear can gl los his; grind
  ·exfalso; clear can gl los his; grind
 ·intro a b; exact absurd ⟨a, b⟩ hsk
theorem short_inn (k z m : Nat) (q e : Int) (k1 : 1 <= k) (k2 : k < 9007199254740992) (q1 : -1074 <= q) (q2 : q <= 971) (nm : 4503599627370496 <= k \/ q = -1074) (hz : zOf e = z) (hz2 : z <= 63) (he : e + z = q) (hm : m = k * 2 ^ z) (hm1 : 9223372036854775808 <= m) (hm2 : m < 18446744073709551616) :
  Inn k q (((shortN m e).1 : Rat) * (10 : Rat) ^ (shortN m e).2) := by
 have hz1 : 11 <= z := by rw [<- hz]; unfold zOf; omega
 by_cases hs : skq m e = true
 ·have hs' := hs
  unfold skq at hs
  simp only [Bool.and_eq_true, beq_iff_eq, decide_eq_true_eq] at hs
  obtain ⟨s1, s2⟩ := hs
  have z11 : z = 11 := by rw [<- hz]; unfold zOf; omega
  subst z11
  have kk : k = 4503599627370496 := by omega
  subst kk
  have ee : e = q - 11 := by omega
  rw [s1, ee]
  exact inn_skew q (by omega) q2
 ·have hs' : skq m e = false := by simpa using hs
  obtain ⟨p1, p2, s1, s2⟩ := sp_ok m e (by omega) (by omega)
  obtain ⟨h1, h2, h3, h4⟩ := lohi m z (by omega) hz2 hm2 (by rw [hm]; exact Nat.mul_mod_left _ _)
  have hp : pOf m e = -Fl.log10Pow2 q := by
   unfold pOf Fl.log10Pow2
   rw [hs', hz, he]; rfl
  have hlo : loOf m e = (2 * k - 1) * 2 ^ (z - 1) := by
   unfold loOf
   rw [hs', hz, hm, Nat.sub_mul, h2]
   simp only [Bool.false_eq_true, if_false, Nat.one_mul]
   congr 1
   grind
  have hhi : hiOf m e = (2 * k + 1) * 2 ^ (z - 1) := by
   unfold hiOf
   rw [hz, hm, h2]; grind
  have hodd : oddOf m e = k % 2 := by
   unfold oddOf
   rw [hz, hm, Nat.mul_div_cancel _ (Nat.two_pow_pos _)]
  have hk0 : (0 : Rat) < k := by exact_mod_cast k1
  obtain ⟨g1, g2⟩ := g_at q q1 q2
  have hgp : (0 : Rat) < (2 : Rat) ^ (q - 1) * (10 : Rat) ^ (pOf m e) := Rat.mul_pos (two_pos _) (Rat.zpow_pos (by decide))
  have k2' : (k : Rat) + 1 <= 9007199254740992 := by exact_mod_cast k2
  have cut : ∀ (X x : Nat), x = X * 2 ^ (z - 1) -> 1 <= X -> X < 18014398509481984 -> 4611686018427387904 <= x -> x < 18446744073709551616 -> CutV (usc m e x) ((X : Rat) * ((2 : Rat) ^ (q - 1) * (10 : Rat) ^ (pOf m e))) := by
   intro X x hx hX1 hX2 hx1 hx2
   have key := usc_val x e (pOf m e) hx1 hx2 p1 p2 (by omega)
   have ev : (x : Rat) * (2 : Rat) ^ (e + 2) * (10 : Rat) ^ (pOf m e) = 4 * ((X : Rat) * ((2 : Rat) ^ (q - 1) * (10 : Rat) ^ (pOf m e))) := by
    rw [hx, Rat.natCast_mul, Rat.natCast_pow]
    have e1 : ((2 : Nat) : Rat) ^ (z - 1) = (2 : Rat) ^ ((z - 1 : Nat) : Int) := by rw [Rat.zpow_natCast]; rfl
    rw [e1]
    have e2 : (2 : Rat) ^ ((z - 1 : Nat) : Int) * (2 : Rat) ^ (e + 2) = (2 : Rat) ^ (q - 1) * (2 : Rat) ^ (2 : Int) := by
     rw [<- tz, <- tz]; congr 1; omega
    have e3 : (2 : Rat) ^ (2 : Int) = 4 := rfl
    rw [e3] at e2
    grind
   rw [ev] at key
   have hX1' : (1 : Rat) <= X := by exact_mod_cast hX1
   have hX2' : (X : Rat) + 1 <= 18014398509481984 := by exact_mod_cast hX2
   refine cutv (Rat.mul_pos (by grind) hgp) ?_ ?_ key
   ·rw [hp]
    have u1 := Rat.mul_le_mul_of_nonneg_right (show (X : Rat) <= 18014398509481984 by grind) (show (0 : Rat) <= (2 : Rat) ^ (q - 1) * (10 : Rat) ^ (-Fl.log10Pow2 q) by grind)
    grind
   ·intro D
    have := Fl.gap_rat q q1 q2 X D (by omega) (by omega)
    rw [<- hp] at this
    exact this
  have hloe : loOf m e = m - 2 ^ (z - 1) := by unfold loOf; rw [hs', hz]; rfl
  have cl := cut (2 * k - 1) (loOf m e) hlo (by omega) (by omega) (by rw [hloe]; omega) (by rw [hloe]; omega)
  have ch := cut (2 * k + 1) (hiOf m e) hhi (by omega) (by omega) (by unfold hiOf; rw [hz]; omega) (by unfold hiOf; rw [hz]; omega)
  have cm := cut (2 * k) m (by rw [hm, h2]; grind) (by omega) (by omega) (by omega) hm2
  have el : (((2 * k - 1 : Nat)) : Rat) = (2 * k : Rat) - 1 := by rw [nsub1 (by omega)]; push_cast; rfl
  have eh : (((2 * k + 1 : Nat)) : Rat) = (2 * k : Rat) + 1 := by rw [nadd1]; push_cast; rfl
  have em : (((2 * k : Nat)) : Rat) = (2 * k : Rat) := by push_cast; rfl
  rw [el] at cl
  rw [eh] at ch
  rw [em] at cm
  obtain ⟨dmin, dmax, e1, e2, f1, f2, f3, f4, f5, f6, f7⟩ := pick_at (o := oddOf m e) k1 hodd.symm cl ch cm (by rw [hp]; exact g1)
  have n1 : dminOf m e = dmin := e1
  have n2 : dmaxOf m e = dmax := e2
  have hsk : ¬ (k = 4503599627370496 /\ -1074 < q) := by
   rintro ⟨ha, hb⟩
   have : skq m e = true := by
    have z11 : z = 11 := by
     have : zOf e = max 11 (-1074 - e).toNat := by unfold zOf; omega
     rw [hz] at this
     rcases Nat.lt_or_ge 11 z with h | h
     ·exfalso; omega
     ·omega
    subst z11
    unfold skq
    rw [Bool.and_eq_true]
    exact ⟨by rw [hm, ha]; rfl, by rw [decide_eq_true_eq]; omega⟩
   rw [hs'] at this; cases this
  have fin : ∀ (D : Nat) (y : Rat), dmin <= D -> D <= dmax -> y * (10 : Rat) ^ (pOf m e) = D -> Inn k q y := by
   intro D y d1 d2 hy
   have d1' : (dmin : Rat) <= D := by exact_mod_cast d1
   have d2' : (D : Rat) <= dmax := by exact_mod_cast d2
   refine inn_plain (P := pOf m e) k1 k2 q1 q2 nm hsk hp (D := D) (by omega) (Rat.le_trans f3 d1') ?_ (Rat.le_trans d2' f5) ?_ hy
   ·intro h; exact f4 (Rat.le_antisymm f3 (by rw [h]; exact d1'))
   ·intro h; exact f6 (Rat.le_antisymm f5 (by rw [<- h]; exact d2'))
  have tenz : (10 : Rat) ^ (-pOf m e) * (10 : Rat) ^ (pOf m e) = 1 := by
   rw [<- Rat.zpow_add (by decide), show -pOf m e + pOf m e = 0 from by omega, Rat.zpow_zero]
  unfold shortN
  rw [n1, n2]
  split
  ·rename_i hc
   refine fin (dmax / 10 * 10) _ hc (by omega) ?_
   have t2 : (10 : Rat) ^ (-(pOf m e - 1)) = (10 : Rat) ^ (-pOf m e) * 10 := by
    have : (10 : Rat) ^ (-(pOf m e - 1)) = (10 : Rat) ^ (-pOf m e) * (10 : Rat) ^ (1 : Int) := by
     rw [<- Rat.zpow_add (by decide)]; congr 1; omega
    simpa using this
   dsimp only
   rw [t2, Rat.natCast_mul]
   have : ((10 : Nat) : Rat) = 10 := rfl
   rw [this]; grind
  ·split
   ·rename_i hc
    obtain ⟨t1, t2⟩ := f2 hc
    refine fin _ _ t1 t2 ?_
    dsimp only
    rw [Rat.mul_assoc, tenz, Rat.mul_one]
   ·refine fin dmin _ (Nat.le_refl _) f1 ?_
    dsimp only
    rw [Rat.mul_assoc, tenz, Rat.mul_one]
structure In0 (k : Nat) (q : Int) (y : Rat) : Prop where
 k1 : 1 <= k
 k2 : k < 9007199254740992
 q1 : -1074 <= q
 q2 : q <= 971
 nm : 4503599627370496 <= k \/ q = -1074
 lo : ((2 * k : Rat) - 1) * (2 : Rat) ^ (q - 1) <= y
 hi : y <= ((2 * k : Rat) + 1) * (2 : Rat) ^ (q - 1)
 los : ((2 * k : Rat) - 1) * (2 : Rat) ^ (q - 1) = y -> k % 2 = 0
 his : y = ((2 * k : Rat) + 1) * (2 : Rat) ^ (q - 1) -> k % 2 = 0
 sk : k = 4503599627370496 -> -1074 < q -> ((4 * k : Rat) - 1) * (2 : Rat) ^ (q - 2) <= y
theorem Inn.in0 {k : Nat} {q : Int} {y : Rat} (h : Inn k q y) : In0 k q y := ⟨h.k1, h.k2, h.q1, h.q2, h.nm, h.lo, h.hi, h.los, h.his, h.sk⟩
theorem cut_spec (neg : Bool) (n drop : Nat) (h : drop <= n.log2 + 2) : ∃ r, Ieee.Toward.even.cut neg n drop = r /\ 2 * n <= (2 * r + 1) * 2 ^ drop /\ (2 * n = (2 * r + 1) * 2 ^ drop -> r % 2 = 0) /\ 2 * r * 2 ^ drop <= 2 * n + 2 ^ drop /\ (2 * r * 2 ^ drop = 2 * n + 2 ^ drop -> r % 2 = 0) := by
 refine ⟨_, rfl, ?_⟩
 unfold Ieee.Toward.cut
 simp only [Nat.min_eq_left h, Nat.shiftLeft_eq, Nat.one_mul]
 have hG : 0 < 2 ^ drop := Nat.two_pow_pos _
 have e := Nat.div_add_mod n (2 ^ drop)
 have hr : n % 2 ^ drop < 2 ^ drop := Nat.mod_lt _ hG
 generalize 2 ^ drop = G at *
 generalize n / G = l at *
 generalize n % G = r at *
 rw [Nat.mul_comm] at e
 by_cases h1 : G < 2 * r
 ·simp only [h1, decide_true, Bool.true_or, Bool.toNat_true]
  have e1 : (2 * (l + 1) + 1) * G = 2 * (l * G) + 3 * G := by grind
  have e2 : 2 * (l + 1) * G = 2 * (l * G) + 2 * G := by grind
  rw [e1, e2]
  exact ⟨by omega, by omega, by omega, by omega⟩
 ·simp only [h1, decide_false, Bool.false_or]
  by_cases h2 : G = 2 * r
  ·by_cases h3 : l % 2 = 1
   ·have hb : (G == 2 * r && l % 2 == 1) = true := by simp [h2.symm, h3]
    rw [hb, Bool.toNat_true]
    have e1 : (2 * (l + 1) + 1) * G = 2 * (l * G) + 3 * G := by grind
    have e2 : 2 * (l + 1) * G = 2 * (l * G) + 2 * G := by grind
    rw [e1, e2]
    exact ⟨by omega, by omega, by omega, by omega⟩
   ·have hb : (G == 2 * r && l % 2 == 1) = false := by simp [h3]
    rw [hb, Bool.toNat_false]; simp only [Nat.add_zero]
    have e1 : (2 * l + 1) * G = 2 * (l * G) + G := by grind
    have e2 : 2 * l * G = 2 * (l * G) := by grind
    rw [e1, e2]
    exact ⟨by omega, by omega, by omega, by omega⟩
  ·have hb : (G == 2 * r && l % 2 == 1) = false := by
    have : (G == 2 * r) = false := by rw [beq_eq_false_iff_ne]; exact h2
    rw [this, Bool.false_and]
   rw [hb, Bool.toNat_false]; simp only [Nat.add_zero]
   have e1 : (2 * l + 1) * G = 2 * (l * G) + G := by grind
   have e2 : 2 * l * G = 2 * (l * G) := by grind
   rw [e1, e2]
   exact ⟨by omega, by omega, by omega, by omega⟩
theorem rne_unique {r k : Nat} {Y : Rat} (a1 : 2 * Y <= (2 * r : Rat) + 1) (a2 : 2 * Y = (2 * r : Rat) + 1 -> r % 2 = 0) (a3 : (2 * r : Rat) <= 2 * Y + 1) (a4 : (2 * r : Rat) = 2 * Y + 1 -> r % 2 = 0)
  (b1 : 2 * Y <= (2 * k : Rat) + 1) (b2 : 2 * Y = (2 * k : Rat) + 1 -> k % 2 = 0) (b3 : (2 * k : Rat) <= 2 * Y + 1) (b4 : (2 * k : Rat) = 2 * Y + 1 -> k % 2 = 0) : r = k := by
 have key : ∀ {r k : Nat}, r < k -> (2 * Y <= (2 * r : Rat) + 1) -> (2 * Y = (2 * r : Rat) + 1 -> r % 2 = 0) -> ((2 * k : Rat) <= 2 * Y + 1) -> ((2 * k : Rat) = 2 * Y + 1 -> k % 2 = 0) -> False := by
  intro r k h a1 a2 b3 b4
  have h' : ((r + 1 : Nat) : Rat) <= k := by exact_mod_cast h
  rw [nadd1] at h'
  have e1 : 2 * Y = (2 * r : Rat) + 1 := by clear a2 b4; grind
  have e2 : (2 * k : Rat) = 2 * Y + 1 := by clear a2 b4; grind
  have e3 : (2 * k : Rat) = (2 * r : Rat) + 2 := by clear a2 b4; grind
  have e4 : ((2 * k : Nat) : Rat) = ((2 * r + 2 : Nat) : Rat) := by push_cast; exact e3
  have e5 : 2 * k = 2 * r + 2 := by exact_mod_cast e4
  have := a2 e1
  have := b4 e2
  omega
 rcases Nat.lt_trichotomy r k with h | h | h
 ·exact (key h a1 a2 b3 b4).elim
 ·exact h
 ·exact (key h b1 b2 a3 a4).elim
def rung (k : Nat) (q : Int) : Nat := (q + 1074).toNat * 4503599627370496 + k
theorem kept_at (neg : Bool) (mag : Nat) (place last : Int) (k : Nat) (_hm : mag ≠ 0) (hd : last <= place + mag.log2 + 2) {Y : Rat} (hY : Y = (mag : Rat) * (2 : Rat) ^ (place - last))
  (b1 : 2 * Y <= (2 * k : Rat) + 1) (b2 : 2 * Y = (2 * k : Rat) + 1 -> k % 2 = 0) (b3 : (2 * k : Rat) <= 2 * Y + 1) (b4 : (2 * k : Rat) = 2 * Y + 1 -> k % 2 = 0) :
  Ieee.Toward.even.cut neg (mag <<< (place - last).toNat) (last - place).toNat = k := by
 rcases Int.lt_or_le place last with h | h
 ·rw [show (place - last).toNat = 0 from by omega, Nat.shiftLeft_zero]
  obtain ⟨r, hr, c1, c2, c3, c4⟩ := cut_spec neg mag (last - place).toNat (by omega)
  rw [hr]
  have hG : (0 : Rat) < (2 : Rat) ^ (last - place).toNat := Rat.pow_pos (by decide)
  have e := zpn 2 (by decide) (place - last)
  rw [show -(place - last) = last - place from by omega, show (place - last).toNat = 0 from by omega, Rat.pow_zero] at e
  generalize (last - place).toNat = n at *
  have e' : Y * (2 : Rat) ^ n = mag := by rw [hY, Rat.mul_assoc, e, Rat.mul_one]
  have c1' : (2 * mag : Rat) <= (2 * r + 1) * (2 : Rat) ^ n := by exact_mod_cast c1
  have c3' : (2 * r : Rat) * (2 : Rat) ^ n <= 2 * mag + (2 : Rat) ^ n := by exact_mod_cast c3
  have c2' : (2 * mag : Rat) = (2 * r + 1) * (2 : Rat) ^ n -> r % 2 = 0 := by intro h; apply c2; exact_mod_cast h
  have c4' : (2 * r : Rat) * (2 : Rat) ^ n = 2 * mag + (2 : Rat) ^ n -> r % 2 = 0 := by intro h; apply c4; exact_mod_cast h
  generalize (2 : Rat) ^ n = G at *
  clear c1 c2 c3 c4 hY
  have can : ∀ {a b : Rat}, a * G <= b * G -> a <= b := fun h => Rat.le_of_mul_le_mul_right h hG
  refine rne_unique (Y := Y) ?_ ?_ ?_ ?_ b1 b2 b3 b4
  ·refine can ?_; clear can c2' c4' b2 b4; grind
  ·intro h; apply c2'; clear can c2' c4' b2 b4; grind
  ·refine can ?_; clear can c2' c4' b2 b4; grind
  ·intro h; apply c4'; clear can c2' c4' b2 b4; grind
 ·rw [show (last - place).toNat = 0 from by omega]
  obtain ⟨r, hr, c1, c2, c3, c4⟩ := cut_spec neg (mag <<< (place - last).toNat) 0 (by omega)
  rw [hr]
  have e : (2 : Rat) ^ (place - last) = (2 : Rat) ^ (place - last).toNat := by
   rw [<- Rat.zpow_natCast]; congr 1; omega
  rw [e] at hY
  rw [Nat.shiftLeft_eq, Nat.pow_zero, Nat.mul_one] at c1 c2 c3 c4
  have hY' : Y = ((mag * 2 ^ (place - last).toNat : Nat) : Rat) := by rw [hY]; push_cast; rfl
  generalize mag * 2 ^ (place - last).toNat = m at *
  have c1' : (2 * m : Rat) <= (2 * r + 1) := by
   have := c1; rw [Nat.mul_comm] at this
   exact_mod_cast (show 2 * m <= 2 * r + 1 by omega)
  have c3' : (2 * r : Rat) <= 2 * m + 1 := by exact_mod_cast (show 2 * r <= 2 * m + 1 by omega)
  have c2' : (2 * m : Rat) = (2 * r + 1) -> r % 2 = 0 := by
   intro h
   have h2 : 2 * m = 2 * r + 1 := by exact_mod_cast h
   omega
  have c4' : (2 * r : Rat) = 2 * m + 1 -> r % 2 = 0 := by
   intro h
   have h2 : 2 * r = 2 * m + 1 := by exact_mod_cast h
   omega
  rw [hY'] at b1 b2 b3 b4
  exact rne_unique (Y := (m : Rat)) c1' c2' c3' c4' b1 b2 b3 b4
theorem nearest_at {k : Nat} {q : Int} {y : Rat} (h : In0 k q y) (neg : Bool) (mag : Nat) (place : Int) (hm : mag ≠ 0) (hy : y = (mag : Rat) * (2 : Rat) ^ place) :
  Ieee.double.nearest neg mag place = Ieee.double.word neg (rung k q) := by
 obtain ⟨k1, k2, q1, q2, nm, lo, hi, los, his, sk⟩ := h
 have k2' : (k : Rat) + 1 <= 9007199254740992 := by exact_mod_cast k2
 have k1' : (1 : Rat) <= k := by exact_mod_cast k1
 unfold Ieee.Format.nearest
 rw [if_neg hm]
 have hlp : Ieee.double.leastPlace = -1074 := by decide
 have hfb : (Ieee.double.fractionBits : Int) = 52 := rfl
 have hbin : Ieee.double.binade = 4503599627370496 := by decide
 have hinf : Ieee.double.infRung = 9218868437227405312 := by decide
 rw [hlp, hfb, hbin, hinf]
 simp only []
 obtain ⟨L, hL⟩ : ∃ L, mag.log2 = L := ⟨_, rfl⟩
 have L1 : 2 ^ L <= mag := by rw [<- hL]; exact Nat.log2_self_le hm
 have L2 : mag < 2 ^ (L + 1) := by rw [<- hL]; exact Nat.lt_log2_self
 obtain ⟨last, hlast⟩ : ∃ last, max (place + (L : Int) - 52) (-1074) = last := ⟨_, rfl⟩
 rw [hL, hlast]
 have y1 : (2 : Rat) ^ (place + (L : Int)) <= y := by
  have : (2 : Rat) ^ (L : Int) <= mag := by rw [Rat.zpow_natCast]; exact_mod_cast L1
  have := Rat.mul_le_mul_of_nonneg_right this (Rat.le_of_lt (two_pos place))
  rw [tz, hy]; grind
 have y2 : y < (2 : Rat) ^ (place + (L : Int) + 1) := by
  have : (mag : Rat) < (2 : Rat) ^ ((L + 1 : Nat) : Int) := by rw [Rat.zpow_natCast]; exact_mod_cast L2
  have := Rat.mul_lt_mul_of_pos_right this (two_pos place)
  rw [show place + (L : Int) + 1 = ((L + 1 : Nat) : Int) + place from by omega, tz, hy]; exact this
 have hw := two_pos (-last)
 have e1 : (2 : Rat) ^ (q - 1) * 2 = (2 : Rat) ^ q := by
  have : (2 : Rat) ^ (q - 1) * (2 : Rat) ^ (1 : Int) = (2 : Rat) ^ q := by rw [<- tz]; congr 1; omega
  simpa using this
 have e4 : (2 : Rat) ^ (q - 2) * 4 = (2 : Rat) ^ q := by
  have : (2 : Rat) ^ (q - 2) * (2 : Rat) ^ (2 : Int) = (2 : Rat) ^ q := by rw [<- tz]; congr 1; omega
  exact this
 have yq : y < 9007199254740992 * (2 : Rat) ^ q := by
  have := Rat.mul_le_mul_of_nonneg_right k2' (Rat.le_of_lt (two_pos (q - 1)))
  have := two_pos (q - 1)
  clear los his sk y1 y2; grind
 have e53 : (9007199254740992 : Rat) * (2 : Rat) ^ q = (2 : Rat) ^ (q + 53) := by
  rw [tz]; have : (2 : Rat) ^ (53 : Int) = 9007199254740992 := rfl
  rw [this]; grind
 have hlow : (2 : Rat) ^ (-1075 : Int) <= y := by
  have u1 := two_mono (show (-1075 : Int) <= q - 1 by omega)
  have u2 := Rat.mul_le_mul_of_nonneg_right (show (1 : Rat) <= (2 * k : Rat) - 1 by grind) (Rat.le_of_lt (two_pos (q - 1)))
  clear los his sk y1 y2; grind
 have hbl : -1075 < place + (L : Int) + 1 := two_lt (by clear los his sk; grind)
 have hdrop : last <= place + (mag.log2 : Int) + 2 := by rw [hL]; omega
 have hq : last <= q := by
  rcases Int.lt_or_le q last with g | g
  ·exfalso
   have u1 := two_mono (show q + 53 <= place + (L : Int) by omega)
   clear los his sk; grind
  ·exact g
 rcases (show last = q \/ last < q by omega) with g | g
 ·have hk := kept_at neg mag place last k hm hdrop (Y := y * (2 : Rat) ^ (-last)) (by
   rw [hy, show place - last = place + -last from by omega, tz]; grind) ?_ ?_ ?_ ?_
  ·rw [hk, g]
   congr 1
   have : (q - -1074).toNat * 4503599627370496 + k = rung k q := by unfold rung; rw [show q - -1074 = q + 1074 from by omega]
   rw [this]
   refine Nat.min_eq_left ?_
   unfold rung; omega
  all_goals (obtain ⟨q', hq'⟩ : ∃ q', q' = q := ⟨_, rfl⟩; have hlq : last = q := g; rw [hlq] at hw ⊢)
  all_goals have e5 : (2 : Rat) ^ q * (2 : Rat) ^ (-q) = 1 := by rw [<- tz, show q + -q = 0 from by omega, Rat.zpow_zero]
  all_goals clear y1 y2 hlow e53 yq
  all_goals generalize (2 : Rat) ^ (q - 1) = G at *
  all_goals generalize (2 : Rat) ^ (-q) = H at *
  all_goals generalize (2 : Rat) ^ q = I at *
  ·have := Rat.mul_le_mul_of_nonneg_right hi (Rat.le_of_lt hw)
   have gh : G * H = 1 / 2 := by clear los his sk; grind
   rw [Rat.mul_assoc, gh] at this
   clear los his sk; grind
  ·intro h; apply his
   have e6 : y = y * H * I := by grind
   rw [e6]; clear los his sk; grind
  ·have := Rat.mul_le_mul_of_nonneg_right lo (Rat.le_of_lt hw)
   have gh : G * H = 1 / 2 := by clear los his sk; grind
   rw [Rat.mul_assoc, gh] at this
   clear los his sk; grind
  ·intro h; apply los
   have e6 : y = y * H * I := by grind
   rw [e6]; clear los his sk; grind
 ·have hk52 : 4503599627370496 <= k := by omega
  have hkk : k = 4503599627370496 := by
   rcases Nat.lt_or_ge 4503599627370496 k with g2 | g2
   ·exfalso
    have g2' : ((4503599627370496 + 1 : Nat) : Rat) <= k := by exact_mod_cast g2
    have c5 : ((4503599627370496 + 1 : Nat) : Rat) = 4503599627370497 := rfl
    rw [c5] at g2'
    have u1 := two_mono (show place + (L : Int) + 1 <= q + 52 by omega)
    have u2 : (4503599627370496 : Rat) * (2 : Rat) ^ q = (2 : Rat) ^ (q + 52) := by
     rw [tz]; have : (2 : Rat) ^ (52 : Int) = 4503599627370496 := rfl
     rw [this]; grind
    have u3 := Rat.mul_le_mul_of_nonneg_right g2' (Rat.le_of_lt (two_pos (q - 1)))
    have u4 := two_pos (q - 1)
    clear los his sk; grind
   ·omega
  have skk := sk hkk (by omega)
  have kr : (k : Rat) = 4503599627370496 := by rw [hkk]; rfl
  rw [kr] at skk
  have hl1 : q - 1 <= last := by
   rcases Int.lt_or_le last (q - 1) with g2 | g2
   ·exfalso
    have u1 := two_mono (show place + (L : Int) + 1 <= q + 51 by omega)
    have u2 : (9007199254740992 : Rat) * (2 : Rat) ^ (q - 2) = (2 : Rat) ^ (q + 51) := by
     rw [show q + 51 = (q - 2) + 53 from by omega, tz]; have : (2 : Rat) ^ (53 : Int) = 9007199254740992 := rfl
     rw [this]; grind
    have u4 := two_pos (q - 2)
    clear los his sk; grind
   ·exact g2
  have hl2 : last = q - 1 := by omega
  have y3 : y < 18014398509481984 * (2 : Rat) ^ (q - 2) := by
   have u1 := two_mono (show place + (L : Int) + 1 <= q + 52 by omega)
   have u2 : (18014398509481984 : Rat) * (2 : Rat) ^ (q - 2) = (2 : Rat) ^ (q + 52) := by
    rw [show q + 52 = (q - 2) + 54 from by omega, tz]; have : (2 : Rat) ^ (54 : Int) = 18014398509481984 := rfl
    rw [this]; grind
   clear los his sk; grind
  have e7 : (2 : Rat) ^ (q - 2) * (2 : Rat) ^ (-last) * 2 = 1 := by
   have : (2 : Rat) ^ (q - 2) * (2 : Rat) ^ (-last) * (2 : Rat) ^ (1 : Int) = (2 : Rat) ^ (0 : Int) := by
    rw [<- tz, <- tz]; congr 1; omega
   simpa using this
  have c9 : ((9007199254740992 : Nat) : Rat) = 9007199254740992 := rfl
  have hk := kept_at neg mag place last 9007199254740992 hm hdrop (Y := y * (2 : Rat) ^ (-last)) (by
   rw [hy, show place - last = place + -last from by omega, tz]; grind) ?_ (fun _ => by decide) ?_ (fun _ => by decide)
  ·rw [hk, hl2, hkk]
   refine congrArg (Ieee.double.word neg) ?_
   have : (q - 1 - -1074).toNat * 4503599627370496 + 9007199254740992 = rung 4503599627370496 q := by unfold rung; omega
   refine (congrArg (fun t => min t 9218868437227405312) this).trans (Nat.min_eq_left ?_)
   unfold rung; omega
  all_goals rw [c9]
  all_goals clear y1 y2 hlow e53 yq los his sk e1 e4 hi lo
  all_goals generalize (2 : Rat) ^ (q - 2) = G at *
  all_goals generalize (2 : Rat) ^ (-last) = H at *
  ·have := Rat.mul_lt_mul_of_pos_right y3 hw
   clear hinf hbin
   grind
  ·have := Rat.mul_le_mul_of_nonneg_right skk (Rat.le_of_lt hw)
   grind
theorem read_word (neg : Bool) (k : Nat) (q : Int) (k2 : k < 9007199254740992) (q1 : -1074 <= q) (q2 : q <= 971) (nm : 4503599627370496 <= k \/ q = -1074) :
  Ieee.double.read (Ieee.double.word neg (rung k q)) = .number neg k q := by
 have hlp : Ieee.double.leastPlace = -1074 := by decide
 have hbin : Ieee.double.binade = 4503599627370496 := by decide
 have hinf : Ieee.double.infRung = 9218868437227405312 := by decide
 have hsg : Ieee.double.signWeight = 9223372036854775808 := by decide
 unfold Ieee.Format.read Ieee.Format.word
 rw [hlp, hbin, hinf, hsg]
 have hr : rung k q < 9218868437227405312 := by unfold rung; omega
 have hneg : ((if neg = true then 9223372036854775808 + rung k q else rung k q) / 9223372036854775808 % 2 == 1) = neg := by
  cases neg
  ·simp only [Bool.false_eq_true, if_false]
   rw [Nat.div_eq_of_lt (by omega)]; rfl
  ·simp only [if_true]
   have : (9223372036854775808 + rung k q) / 9223372036854775808 = 1 := by omega
   rw [this]; rfl
 have hmod : (if neg = true then 9223372036854775808 + rung k q else rung k q) % 9223372036854775808 = rung k q := by
  cases neg
  ·simp only [Bool.false_eq_true, if_false]; omega
  ·simp only [if_true]; omega
 simp only [hneg, hmod, if_pos hr]
 by_cases h : rung k q < 4503599627370496
 ·rw [if_pos h]
  have : q = -1074 := by unfold rung at h; omega
  subst this
  have : rung k (-1074) = k := by unfold rung; omega
  rw [this]
 ·rw [if_neg h]
  have hk : 4503599627370496 <= k := by
   rcases nm with g | g
   ·exact g
   ·subst g; unfold rung at h; omega
  congr 1
  ·unfold rung; omega
  ·unfold rung; omega
end Go.Proofs.YtdfolbmoohcblaaGreatDoor
