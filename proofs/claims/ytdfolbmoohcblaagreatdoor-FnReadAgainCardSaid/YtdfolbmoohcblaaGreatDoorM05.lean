/-
For FnReadAgain, part 5: Bits W4 W4a W4b W4c W4d.
-/
import Derived.Test.YtdfolbmoohcblaaGreatDoorM01
import Derived.Lib.Strings
import Derived.Lib.Slices
import Derived.Lib.Small
import Derived.Lib.Walk
import Derived.Lib.BitFns
import GoSem.PinnedTables
import Derived.Deep.QuietTactic
import Derived.BigQuiet
set_option linter.all false
namespace Go.Proofs.YtdfolbmoohcblaaGreatDoor
set_option maxHeartbeats 4000000
set_option maxRecDepth 100000
open Go.RowKit
theorem ret_int {k : IntKind} {a b : Int} (h : a = b) : Ending.returned (.int k a) = .returned (.int k b) := by rw [h]
theorem ofInt_nat64 (a : Nat) (h : a < 18446744073709551616) : (BitVec.ofInt 64 (a : Int)).toNat = a := by
 rw [BitVec.ofInt_natCast, BitVec.toNat_ofNat]; exact Nat.mod_eq_of_lt h
theorem bits_and_u64 (a b : Nat) (ha : a < 18446744073709551616) (hb : b < 18446744073709551616) : bits .and .u64 (a : Int) (b : Int) = ((a &&& b : Nat) : Int) := by
 have key : (BitVec.ofInt 64 (a : Int) &&& BitVec.ofInt 64 (b : Int)).toNat = a &&& b := by rw [BitVec.toNat_and, ofInt_nat64 a ha, ofInt_nat64 b hb]
 refine (congrArg (fun n : Nat => IntKind.u64.wrap (n : Int)) key).trans ?_
 have : a &&& b < 18446744073709551616 := Nat.lt_of_le_of_lt Nat.and_le_left ha
 exact IntWalk.u64_in _ (by constructor <;> omega)
theorem bits_or_u64 (a b : Nat) (ha : a < 18446744073709551616) (hb : b < 18446744073709551616) : bits .or .u64 (a : Int) (b : Int) = ((a ||| b : Nat) : Int) := by
 have key : (BitVec.ofInt 64 (a : Int) ||| BitVec.ofInt 64 (b : Int)).toNat = a ||| b := by rw [BitVec.toNat_or, ofInt_nat64 a ha, ofInt_nat64 b hb]
 refine (congrArg (fun n : Nat => IntKind.u64.wrap (n : Int)) key).trans ?_
 have : a ||| b < 18446744073709551616 := Nat.or_lt_two_pow (n := 64) ha hb
 exact IntWalk.u64_in _ (by constructor <;> omega)
theorem bits_and1_u64 (a : Nat) (ha : a < 18446744073709551616) : bits .and .u64 (a : Int) 1 = ((a % 2 : Nat) : Int) := by
 rw [show (1 : Int) = ((1 : Nat) : Int) from rfl, bits_and_u64 a 1 ha (by omega), Nat.and_one_is_mod]
theorem bits_or1_u64 (a : Nat) (ha : a < 18446744073709551616) : bits .or .u64 (a : Int) 1 = ((a / 2 * 2 + 1 : Nat) : Int) := by
 rw [show (1 : Int) = ((1 : Nat) : Int) from rfl, bits_or_u64 a 1 ha (by omega)]
 congr 1
 apply Nat.eq_of_testBit_eq
 intro i
 rw [Nat.testBit_or]
 cases i with
 | zero => simp [Nat.testBit_zero]
 | succ i => rw [Nat.testBit_succ, Nat.testBit_succ, Nat.testBit_succ, show (a / 2 * 2 + 1) / 2 = a / 2 from by omega]; simp
theorem bits_mask32 (a : Nat) (ha : a < 18446744073709551616) : bits .and .u64 (a : Int) 4294967295 = ((a % 4294967296 : Nat) : Int) := by
 rw [show (4294967295 : Int) = ((4294967295 : Nat) : Int) from rfl, bits_and_u64 a _ ha (by omega), show (4294967295 : Nat) = 2 ^ 32 - 1 from rfl, Nat.and_two_pow_sub_one_eq_mod]
theorem log10Pow2_any (x : Int) (w : World) (h1 : -100000 <= x) (h2 : x <= 100000) :
  Calls Tryz.prog 100 #[.int .i64 x] w fun e w' => e = .returned (.int .i64 (x * 78913 / 262144)) /\ w = w' := by
 go_enter Tryz.func100, Tryz.ntmps100
 go_wp2
 go_returns
 exact ⟨rfl, rfl⟩
theorem log2Pow10_any (x : Int) (w : World) (h1 : -100000 <= x) (h2 : x <= 100000) :
  Calls Tryz.prog 117 #[.int .i64 x] w fun e w' => e = .returned (.int .i64 (x * 108853 / 32768)) /\ w = w' := by
 go_enter Tryz.func117, Tryz.ntmps117
 go_wp2
 go_returns
 exact ⟨rfl, rfl⟩
theorem skewed_any (x : Int) (w : World) (h1 : -100000 <= x) (h2 : x <= 100000) :
  Calls Tryz.prog 115 #[.int .i64 x] w fun e w' => e = .returned (.int .i64 ((x * 631305 - 261663) / 2097152)) /\ w = w' := by
 go_enter Tryz.func115, Tryz.ntmps115
 go_wp2
 go_returns
 exact ⟨rfl, rfl⟩
theorem bool2i_any (b : Bool) (w : World) :
  Calls Tryz.prog 124 #[.bool b] w fun e w' => e = .returned (.int .i64 b.toNat) /\ w = w' := by
 cases b <;> (go_enter Tryz.func124, Tryz.ntmps124; go_wp2; go_returns; exact ⟨rfl, rfl⟩)
theorem bool2u_any (b : Bool) (w : World) :
  Calls Tryz.prog 142 #[.bool b] w fun e w' => e = .returned (.int .u64 b.toNat) /\ w = w' := by
 cases b <;> (go_enter Tryz.func142, Tryz.ntmps142; go_wp2; go_returns; exact ⟨rfl, rfl⟩)
theorem unmin_any (x : Nat) (w : World) (h1 : 1 <= x) (h2 : x < 4611686018427387904) :
  Calls Tryz.prog 125 #[.int .u64 x] w fun e w' => e = .returned (.int .u64 (x * 4 - 2 : Nat)) /\ w = w' := by
 go_enter Tryz.func125, Tryz.ntmps125
 go_wp2
 go_returns
 exact ⟨ret_int (by omega), rfl⟩
theorem nudge_any (u : Nat) (d : Int) (v : Nat) (w : World) (hu : u < 18446744073709551616) (hv : v < 18446744073709551616) (hd : (v : Int) = u + d) (h1 : -1 <= d) (h2 : d <= 1) :
  Calls Tryz.prog 119 #[.int .u64 u, .int .i64 d] w fun e w' => e = .returned (.int .u64 v) /\ w = w' := by
 have HV := Lib.hid hd
 clear hd
 go_enter Tryz.func119, Tryz.ntmps119
 go_wp2
 go_returns
 refine ⟨ret_int ?_, rfl⟩
 have h := HV.out
 rw [IntKind.wrap_u64, IntKind.wrap_u64]
 omega
theorem ceil_any (u : Nat) (w : World) (hu : u < 18446744073709551000) :
  Calls Tryz.prog 120 #[.int .u64 u] w fun e w' => e = .returned (.int .u64 ((u + 3) / 4 : Nat)) /\ w = w' := by
 go_enter Tryz.func120, Tryz.ntmps120
 go_wp2
 go_returns
 exact ⟨ret_int (by omega), rfl⟩
theorem floor_any (u : Nat) (w : World) (hu : u < 18446744073709551000) :
  Calls Tryz.prog 121 #[.int .u64 u] w fun e w' => e = .returned (.int .u64 (u / 4 : Nat)) /\ w = w' := by
 go_enter Tryz.func121, Tryz.ntmps121
 go_wp2
 go_returns
 exact ⟨ret_int (by omega), rfl⟩
theorem round_any (u : Nat) (w : World) (hu : u < 18446744073709551000) :
  Calls Tryz.prog 122 #[.int .u64 u] w fun e w' => e = .returned (.int .u64 ((u + 1 + u / 4 % 2) / 4 : Nat)) /\ w = w' := by
 go_enter Tryz.func122, Tryz.ntmps122
 go_wp2
 go_returns
 refine ⟨ret_int ?_, rfl⟩
 rw [show ((u : Int) / 4) = ((u / 4 : Nat) : Int) from by omega, bits_and1_u64 _ (by omega), IntWalk.u64_in _ (by omega)]
 omega
def blen (a : Nat) : Nat := if a = 0 then 0 else Nat.log2 a + 1
theorem tab_size : Lib.len8tab.size = 256 := by decide +kernel
theorem tab_all : ∀ n : Fin 256, (Lib.len8tab[n.val]'(by rw [tab_size]; exact n.2)).toNat = blen n.val := by decide +kernel
theorem tab_at (n : Nat) (h : n < 256) : (Lib.len8tab[n]'(by rw [tab_size]; exact h)).toNat = blen n := tab_all ⟨n, h⟩
theorem blen_le8 : ∀ n : Fin 256, blen n.val <= 8 := by decide +kernel
theorem blen_half {x : Nat} (h : x ≠ 0) : blen x = blen (x / 2) + 1 := by
 unfold blen
 rw [if_neg h]
 by_cases h1 : x / 2 = 0
 ·rw [if_pos h1, show x = 1 from by omega]; rfl
 ·rw [if_neg h1, Nat.log2_def x, if_pos (by omega)]
theorem blen_shift : ∀ (k x : Nat), x / 2 ^ k ≠ 0 -> blen x = blen (x / 2 ^ k) + k
 | 0, x, _ => by simp
 | k + 1, x, h => by
  have e : x / 2 ^ (k + 1) = x / 2 / 2 ^ k := by rw [Nat.div_div_eq_div_mul, Nat.pow_succ, Nat.mul_comm]
  rw [e] at h ⊢
  have h0 : x ≠ 0 := by rintro rfl; simp at h
  rw [blen_half h0, blen_shift k (x / 2) h]; omega
theorem len_fin (c a : Nat) (y : Int) (hy : y.toNat = a / 2 ^ c) (hlt : y.toNat < 256) (h0 : y.toNat ≠ 0) (p : y.toNat < Lib.len8tab.size) (hc : c <= 64 := by omega) :
  wrap64 ((c : Int) + wrap64 ((Lib.len8tab[y.toNat]'p).toNat : Int)) = ((blen a : Nat) : Int) := by
 rw [tab_at _ hlt]
 have h8 := blen_le8 ⟨y.toNat, hlt⟩
 simp only at h8
 have e1 : wrap64 ((blen y.toNat : Nat) : Int) = (blen y.toNat : Nat) := IntWalk.wrap64_in _ (by constructor <;> omega)
 rw [e1, IntWalk.wrap64_in _ (by constructor <;> omega), blen_shift c a (by rw [<- hy]; exact h0), <- hy]
 omega
theorem len_fin0 (a : Nat) (y : Int) (hy : y.toNat = a) (hlt : y.toNat < 256) (p : y.toNat < Lib.len8tab.size) :
  wrap64 (wrap64 ((Lib.len8tab[y.toNat]'p).toNat : Int)) = ((blen a : Nat) : Int) := by
 rw [tab_at _ hlt]
 have h8 := blen_le8 ⟨y.toNat, hlt⟩
 simp only at h8
 have e1 : wrap64 ((blen y.toNat : Nat) : Int) = (blen y.toNat : Nat) := IntWalk.wrap64_in _ (by constructor <;> omega)
 rw [e1, e1, hy]
theorem Len64_any (a : Nat) (w : World) (ha : a < 18446744073709551616) :
  Calls Tryz.prog 96 #[.int .u64 a] w fun e w' => e = .returned (.int .i64 (blen a)) /\ w = w' := by
 obtain ⟨x, hx⟩ : ∃ x : Int, x = a := ⟨_, rfl⟩
 have hsz : (Lib.len8tab.size : Int) = 256 := by rw [tab_size]; rfl
 rw [<- hx]
 have h0 : 0 <= x := by omega
 have h1 : x < 18446744073709551616 := by omega
 have HX := Lib.hid hx
 clear hx ha
 go_enter Tryz.func96, Tryz.ntmps96
 go_wp2
 ·go_returns; exact ⟨ret_int (len_fin 56 a _ (by have := HX.out; omega) (by omega) (by omega) _), rfl⟩
 ·go_returns; exact ⟨ret_int (len_fin 48 a _ (by have := HX.out; omega) (by omega) (by omega) _), rfl⟩
 ·go_returns; exact ⟨ret_int (len_fin 40 a _ (by have := HX.out; omega) (by omega) (by omega) _), rfl⟩
 ·go_returns; exact ⟨ret_int (len_fin 32 a _ (by have := HX.out; omega) (by omega) (by omega) _), rfl⟩
 ·go_returns; exact ⟨ret_int (len_fin 24 a _ (by have := HX.out; omega) (by omega) (by omega) _), rfl⟩
 ·go_returns; exact ⟨ret_int (len_fin 16 a _ (by have := HX.out; omega) (by omega) (by omega) _), rfl⟩
 ·go_returns; exact ⟨ret_int (len_fin 8 a _ (by have := HX.out; omega) (by omega) (by omega) _), rfl⟩
 ·go_returns; exact ⟨ret_int (len_fin0 a _ (by have := HX.out; omega) (by omega) _), rfl⟩
theorem mul_core (x1 x0 y1 y0 : Nat) (_h1 : x1 < 4294967296) (_h2 : x0 < 4294967296) (_h3 : y1 < 4294967296) (_h4 : y0 < 4294967296) :
  (x1 * 4294967296 + x0) * (y1 * 4294967296 + y0) / 18446744073709551616 = x1 * y1 + (x1 * y0 + x0 * y0 / 4294967296) / 4294967296 + ((x1 * y0 + x0 * y0 / 4294967296) % 4294967296 + x0 * y1) / 4294967296 := by
 have e : (x1 * 4294967296 + x0) * (y1 * 4294967296 + y0) = x1 * y1 * 18446744073709551616 + (x1 * y0 + x0 * y1) * 4294967296 + x0 * y0 := by grind
 rw [e]
 generalize x1 * y1 = p; generalize x1 * y0 = q; generalize x0 * y1 = r; generalize x0 * y0 = s
 omega
theorem mul_bd {x y : Nat} (h1 : x < 4294967296) (h2 : y < 4294967296) : x * y <= 18446744065119617025 := by
 have := Nat.mul_le_mul (show x <= 4294967295 by omega) (show y <= 4294967295 by omega); omega
theorem Mul64_any (a b : Nat) (w : World) (ha : a < 18446744073709551616) (hb : b < 18446744073709551616) :
  Calls Tryz.prog 149 #[.int .u64 a, .int .u64 b] w fun e w' => e = .returned (.tuple #[.int .u64 (a * b / 18446744073709551616 : Nat), .int .u64 (a * b % 18446744073709551616 : Nat)]) /\ w = w' := by
 have m1 := bits_mask32 a ha
 have m2 := bits_mask32 b hb
 obtain ⟨x1, hx1⟩ : ∃ n, a / 4294967296 = n := ⟨_, rfl⟩
 obtain ⟨x0, hx0⟩ : ∃ n, a % 4294967296 = n := ⟨_, rfl⟩
 obtain ⟨y1, hy1⟩ : ∃ n, b / 4294967296 = n := ⟨_, rfl⟩
 obtain ⟨y0, hy0⟩ : ∃ n, b % 4294967296 = n := ⟨_, rfl⟩
 have d1 : ((a : Int) / 4294967296) = (x1 : Int) := by omega
 have d2 : ((b : Int) / 4294967296) = (y1 : Int) := by omega
 rw [hx0] at m1
 rw [hy0] at m2
 have l1 : x1 < 4294967296 := by omega
 have l2 : x0 < 4294967296 := by omega
 have l3 : y1 < 4294967296 := by omega
 have l4 : y0 < 4294967296 := by omega
 have b1 := mul_bd l1 l3
 have b2 := mul_bd l1 l4
 have b3 := mul_bd l2 l3
 have b4 := mul_bd l2 l4
 have hcore := mul_core x1 x0 y1 y0 l1 l2 l3 l4
 rw [show x1 * 4294967296 + x0 = a from by omega, show y1 * 4294967296 + y0 = b from by omega] at hcore
 have HH := Lib.hid (And.intro m1 (And.intro m2 (And.intro d1 (And.intro d2 (And.intro hcore (And.intro b1 (And.intro b2 (And.intro b3 b4))))))))
 clear m1 m2 d1 d2 hcore b1 b2 b3 b4 hx1 hx0 hy1 hy0
 go_enter Tryz.func149, Tryz.ntmps149
 go_wp2
 go_returns
 refine ⟨?_, rfl⟩
 obtain ⟨m1, m2, d1, d2, hcore, b1, b2, b3, b4⟩ := HH.out
 show Ending.returned (.tuple #[.int .u64 _, .int .u64 _]) = _
 simp only [m1, m2, d1, d2, <- Int.natCast_mul]
 rw [hcore]
 generalize x1 * y1 = p at *; generalize x1 * y0 = q at *; generalize x0 * y1 = r at *; generalize x0 * y0 = s at *
 have e0 : IntKind.u64.wrap (s : Int) = s := IntWalk.u64_in _ (by constructor <;> omega)
 have e1 : IntKind.u64.wrap (q : Int) = q := IntWalk.u64_in _ (by constructor <;> omega)
 have e2 : IntKind.u64.wrap ((q : Int) + (s : Int) / 4294967296) = ((q + s / 4294967296 : Nat) : Int) := (IntWalk.u64_in _ (by constructor <;> omega)).trans (by omega)
 rw [e0, e1, e2, bits_mask32 _ (by omega)]
 have e3 : IntKind.u64.wrap (p : Int) = p := IntWalk.u64_in _ (by constructor <;> omega)
 have e4 : IntKind.u64.wrap (r : Int) = r := IntWalk.u64_in _ (by constructor <;> omega)
 rw [e3, e4]
 have f1 : IntKind.u64.wrap ((p : Int) + ((q + s / 4294967296 : Nat) : Int) / 4294967296) = ((p + (q + s / 4294967296) / 4294967296 : Nat) : Int) := (IntWalk.u64_in _ (by constructor <;> omega)).trans (by omega)
 have f2 : IntKind.u64.wrap ((((q + s / 4294967296) % 4294967296 : Nat) : Int) + (r : Int)) = (((q + s / 4294967296) % 4294967296 + r : Nat) : Int) := (IntWalk.u64_in _ (by constructor <;> omega)).trans (by omega)
 rw [f1, f2]
 have g1 : IntKind.u64.wrap (((p + (q + s / 4294967296) / 4294967296 : Nat) : Int) + (((q + s / 4294967296) % 4294967296 + r : Nat) : Int) / 4294967296) = ((p + (q + s / 4294967296) / 4294967296 + ((q + s / 4294967296) % 4294967296 + r) / 4294967296 : Nat) : Int) := (IntWalk.u64_in _ (by constructor <;> omega)).trans (by omega)
 have g2 : IntKind.u64.wrap ((a * b : Nat) : Int) = ((a * b % 18446744073709551616 : Nat) : Int) := by rw [IntKind.wrap_u64]; omega
 rw [g1, g2]
def hiAt (p : Int) : Nat := (Pinned.pow10Rows.getD (p + 348).toNat (0, 0)).1
def loAt (p : Int) : Nat := (Pinned.pow10Rows.getD (p + 348).toNat (0, 0)).2
def Pow (w : World) : Prop := ∀ p : Int, -348 <= p -> p <= 347 -> w.cell? ⟨15, (p + 348).toNat * 2, none⟩ = some (.int .u64 (hiAt p)) /\ w.cell? ⟨15, (p + 348).toNat * 2 + 1, none⟩ = some (.int .u64 (loAt p))
theorem Pow.below {w w' : World} (h : Pow w) (hb : Below w.heap.size w w') : Pow w' := fun p h1 h2 => ⟨cell_later hb (h p h1 h2).1, cell_later hb (h p h1 h2).2⟩
theorem prescale_any (w : World) (x y z : Value) (e p lp : Int) (hw : Pow w) (h1 : -348 <= p) (h2 : p <= 347) (h3 : -100000 <= e) (h4 : e <= 100000) (h5 : -100000 <= lp) (h6 : lp <= 100000) :
  Calls Tryz.prog 116 #[.pointer (some ⟨w.heap.size, 0, none⟩), .int .i64 e, .int .i64 p, .int .i64 lp] (w.alloc (Obj.cells #[x, y, z] 192))
   fun e' w' => e' = .returned (.tuple #[]) /\ w.alloc (Obj.cells #[.int .u64 (hiAt p), .int .u64 (loAt p), .int .i64 (-(e + lp + 3))] 192) = w' := by
 obtain ⟨c1, c2⟩ := hw p h1 h2
 have hsz : 15 < w.heap.size := World.block_lt_of_cell? _ _ c1
 clear hw
 go_enter Tryz.func116, Tryz.ntmps116
 go_wp2
 go_returns
 exact ⟨rfl, rfl⟩
theorem bits_and63 (s : Nat) (hs : s < 64) : bits .and .i64 (s : Int) 63 = (s : Int) := by
 have key : (BitVec.ofInt 64 (s : Int) &&& BitVec.ofInt 64 (63 : Int)).toNat = s := by
  rw [BitVec.toNat_and, ofInt_nat64 s (by omega), show (63 : Int) = ((63 : Nat) : Int) from rfl, ofInt_nat64 63 (by omega), show (63 : Nat) = 2 ^ 6 - 1 from rfl, Nat.and_two_pow_sub_one_eq_mod]
  exact Nat.mod_eq_of_lt hs
 refine (congrArg (fun n : Nat => IntKind.i64.wrap (n : Int)) key).trans ?_
 exact IntWalk.i64_in _ (by constructor <;> omega)
def uscaleN (x hi lo s : Nat) : Nat :=
 let h := x * hi / 18446744073709551616
 let mid := x * hi % 18446744073709551616
 if h / 2 ^ s * 2 ^ s ≠ h then h / 2 ^ s / 2 * 2 + 1
 else
  let mid2 := x * lo / 18446744073709551616
  let b := if mid < mid2 then 1 else 0
  let d := if mid < mid2 then 18446744073709551616 + mid - mid2 else mid - mid2
  if 1 < d then (h - b) / 2 ^ s / 2 * 2 + 1 else (h - b) / 2 ^ s
theorem shr_cast (h s : Nat) : ((h : Int) / 2 ^ s) = ((h / 2 ^ s : Nat) : Int) := by
 rw [Int.natCast_ediv, Int.natCast_pow]; rfl
theorem shrl_cast (h s : Nat) (hh : h < 18446744073709551616) : IntKind.u64.wrap ((h : Int) / 2 ^ s * 2 ^ s) = ((h / 2 ^ s * 2 ^ s : Nat) : Int) := by
 have e : ((h : Int) / 2 ^ s * 2 ^ s) = ((h / 2 ^ s * 2 ^ s : Nat) : Int) := by
  rw [shr_cast, Int.natCast_mul, Int.natCast_pow]; rfl
 rw [e]
 have := Nat.div_mul_le_self h (2 ^ s)
 exact IntWalk.u64_in _ (by constructor <;> omega)
theorem or1 (a : Nat) (h : a < 18446744073709551616) (b : Bool) : bits .or .u64 (a : Int) (b.toNat : Int) = ((if b then a / 2 * 2 + 1 else a : Nat) : Int) := by
 cases b
 ·rw [show ((false.toNat : Nat) : Int) = ((0 : Nat) : Int) from rfl, bits_or_u64 a 0 h (by omega), Nat.or_zero]; rfl
 ·exact bits_or1_u64 a h
theorem uscale_any (w : World) (g : Nat) (x hi lo s : Nat) (hx : x < 18446744073709551616) (hhi : hi < 18446744073709551616) (hlo : lo < 18446744073709551616) (hs : s < 64) (hh : 18446744073709551616 <= x * hi)
  (c0 : w.cell? ⟨g, 0, none⟩ = some (.int .u64 hi)) (c1 : w.cell? ⟨g, 1, none⟩ = some (.int .u64 lo)) (c2 : w.cell? ⟨g, 2, none⟩ = some (.int .i64 s)) :
  Calls Tryz.prog 118 #[.int .u64 x, .pointer (some ⟨g, 0, none⟩)] w fun e w' => e = .returned (.int .u64 (uscaleN x hi lo s)) /\ ∃ n, w' = w.drewN n := by
 have hb : bits .and .i64 (s : Int) 63 = (s : Int) := bits_and63 s hs
 have hs2 : (s : Int) < 64 := by omega
 have hm1 := Mul64_any x hi w hx hhi
 have hm2 := Mul64_any x lo w hx hlo
 have hl1 : x * hi / 18446744073709551616 < 18446744073709551616 := by
  rw [Nat.div_lt_iff_lt_mul (by omega)]; exact Nat.mul_lt_mul'' hx hhi
 have hl2 : x * lo / 18446744073709551616 < 18446744073709551616 := by
  rw [Nat.div_lt_iff_lt_mul (by omega)]; exact Nat.mul_lt_mul'' hx hlo
 have hl3 : x * hi % 18446744073709551616 < 18446744073709551616 := Nat.mod_lt _ (by omega)
 have hpos : 1 <= x * hi / 18446744073709551616 := by omega
 obtain ⟨res, hres⟩ : ∃ r, uscaleN x hi lo s = r := ⟨_, rfl⟩
 rw [hres]
 unfold uscaleN at hres
 generalize x * hi / 18446744073709551616 = top at hm1 hl1 hpos hres
 generalize x * hi % 18446744073709551616 = mid at hm1 hl3 hres
 generalize x * lo / 18446744073709551616 = mid2 at hm2 hl2 hres
 have HR := Lib.hid hres
 clear hres
 generalize x * lo % 18446744073709551616 = lo2 at hm2
 have HM := Lib.hid (And.intro hm1 hm2)
 clear hm1 hm2 hh
 by_cases hc : top / 2 ^ s * 2 ^ s = top
 ·have hv : (IntKind.u64.wrap ((top : Int) / 2 ^ s * 2 ^ s) != (top : Int)) = false := by rw [shrl_cast top s hl1, hc]; simp
  have HC := Lib.hid hc
  clear hc
  have hq : ∀ n (x : Bool) (w0 : World), Calls Tryz.prog 142 #[.bool x] (w0.drewN n) fun e w'' => e = .returned (.int .u64 x.toNat) /\ ∃ m, w'' = w0.drewN m := fun n x w0 => Calls.quiet_of_same ((bool2u_any _ _).mono fun e w' hh => ⟨hh.1, hh.2.symm⟩)
  by_cases hbor : mid < mid2
  ·have e1 : IntKind.u64.wrap ((mid : Int) - (mid2 : Int)) = ((18446744073709551616 + mid - mid2 : Nat) : Int) := by rw [IntKind.wrap_u64]; omega
   go_enter Tryz.func118, Tryz.ntmps118
   go_wp2_with fail
   refine HM.out.1.mono ?_
   rintro e w' ⟨rfl, rfl⟩
   go_wp2_with fail
   refine HM.out.2.mono ?_
   rintro e w' ⟨rfl, rfl⟩
   go_wp2_with (go_at_call 142; refine (bool2u_any _ _).mono ?_; rintro e w' ⟨rfl, rfl⟩)
   go_quiet ((go_at_call 142; exact hq _ _ _))
   go_wp2_with fail
   go_returns
   refine ⟨?_, _, rfl⟩
   have hlt : (top - 1) / 2 ^ s < 18446744073709551616 := Nat.lt_of_le_of_lt (Nat.div_le_self (top - 1) (2 ^ s)) (by omega)
   refine ret_int ?_
   rw [<- HR.out, if_neg (by rw [HC.out]; simp), show ((top : Int) - 1) = ((top - 1 : Nat) : Int) from by omega, shr_cast, or1 _ hlt]
   simp only [if_pos hbor]
   by_cases hd : 1 < 18446744073709551616 + mid - mid2
   ·rw [if_pos hd, decide_eq_true (by omega)]; rfl
   ·rw [if_neg hd, decide_eq_false (by omega)]; rfl
  ·go_enter Tryz.func118, Tryz.ntmps118
   go_wp2_with fail
   refine HM.out.1.mono ?_
   rintro e w' ⟨rfl, rfl⟩
   go_wp2_with fail
   refine HM.out.2.mono ?_
   rintro e w' ⟨rfl, rfl⟩
   go_wp2_with (go_at_call 142; refine (bool2u_any _ _).mono ?_; rintro e w' ⟨rfl, rfl⟩)
   go_quiet ((go_at_call 142; exact hq _ _ _))
   go_wp2_with fail
   go_returns
   refine ⟨?_, _, rfl⟩
   have hlt : top / 2 ^ s < 18446744073709551616 := Nat.lt_of_le_of_lt (Nat.div_le_self top (2 ^ s)) hl1
   refine ret_int ?_
   rw [<- HR.out, if_neg (by rw [HC.out]; simp), shr_cast, or1 _ hlt]
   simp only [if_neg hbor, Nat.sub_zero]
   by_cases hd : 1 < mid - mid2
   ·rw [if_pos hd, decide_eq_true (by omega)]; rfl
   ·rw [if_neg hd, decide_eq_false (by omega)]; rfl
 ·have hv : (IntKind.u64.wrap ((top : Int) / 2 ^ s * 2 ^ s) != (top : Int)) = true := by rw [shrl_cast top s hl1, bne_iff_ne]; omega
  have HC := Lib.hid hc
  clear hc
  go_enter Tryz.func118, Tryz.ntmps118
  go_wp2_with fail
  refine HM.out.1.mono ?_
  rintro e w' ⟨rfl, rfl⟩
  go_wp2_with fail
  go_returns
  refine ⟨?_, 0, rfl⟩
  have hlt : top / 2 ^ s < 18446744073709551616 := Nat.lt_of_le_of_lt (Nat.div_le_self top (2 ^ s)) hl1
  exact ret_int (by rw [<- HR.out, if_pos HC.out, shr_cast, bits_or1_u64 _ hlt])
theorem run_frombits (n : Int) (w : World) : (callFunc 143 #[.int .u64 n]).run Tryz.prog w = .ok (.value (.float .f64 n.toNat)) w := by kernel_rfl
theorem run_tobits (n : Nat) (w : World) : (callFunc 92 #[.float .f64 n]).run Tryz.prog w = .ok (.value (.int .u64 n)) w := by kernel_rfl
theorem run_mathbits (n : Nat) (w : World) : (callFunc 70 #[.float .f64 n]).run Tryz.prog w = .ok (.value (.int .u64 n)) w := by kernel_rfl
def sg (neg : Bool) : Nat := if neg then 9223372036854775808 else 0
theorem tb_add (a lo j : Nat) (h : lo < 2 ^ 52) : (2 ^ 52 * a + lo).testBit j = if j < 52 then lo.testBit j else a.testBit (j - 52) := Nat.testBit_two_pow_mul_add a h j
theorem and52 (a lo : Nat) (h : lo < 2 ^ 52) : (2 ^ 52 * a + lo) &&& 2 ^ 52 = (a % 2) * 2 ^ 52 := by
  apply Nat.eq_of_testBit_eq
  intro i
  have e := tb_add (a % 2) 0 i (by decide)
  rw [Nat.add_zero, Nat.mul_comm] at e
  rw [Nat.testBit_and, tb_add _ _ _ h, e, Nat.testBit_two_pow]
  by_cases hi : i < 52
  · simp [hi]; omega
  · rw [if_neg hi, if_neg hi]
    by_cases h52 : 52 = i
    · subst h52; simp [Nat.testBit_zero]
    · obtain ⟨j, hj⟩ : ∃ j, i - 52 = j + 1 := ⟨i - 53, by omega⟩
      rw [hj, Nat.testBit_succ, Nat.testBit_succ, show a % 2 / 2 = 0 from by omega]; simp [h52]
theorem or_shift (a b lo : Nat) (h : lo < 2 ^ 52) : (2 ^ 52 * a + lo) ||| (2 ^ 52 * b) = 2 ^ 52 * (a ||| b) + lo := by
  apply Nat.eq_of_testBit_eq
  intro i
  have e := tb_add b 0 i (by decide)
  rw [Nat.add_zero] at e
  rw [Nat.testBit_or, tb_add _ _ _ h, e, tb_add _ _ _ h]
  by_cases hi : i < 52
  · simp [hi]
  · simp [hi, Nat.testBit_or]
theorem andNot52 (a lo : Nat) (h : lo < 2 ^ 52) (ha : a < 4096) (ho : a % 2 = 1) : bits .andNot .u64 ((2 ^ 52 * a + lo : Nat) : Int) 4503599627370496 = ((2 ^ 52 * (a - 1) + lo : Nat) : Int) := by
  have hlt : 2 ^ 52 * a + lo < 18446744073709551616 := by omega
  have hlt2 : 2 ^ 52 * (a - 1) + lo < 18446744073709551616 := by omega
  have key : (BitVec.ofInt 64 ((2 ^ 52 * a + lo : Nat) : Int) &&& ~~~ BitVec.ofInt 64 (4503599627370496 : Int)).toNat = 2 ^ 52 * (a - 1) + lo := by
    apply Nat.eq_of_testBit_eq
    intro i
    rw [BitVec.testBit_toNat, BitVec.getLsbD_and, BitVec.getLsbD_not, <- BitVec.testBit_toNat, ofInt_nat64 _ hlt, <- BitVec.testBit_toNat, show (4503599627370496 : Int) = ((4503599627370496 : Nat) : Int) from rfl, ofInt_nat64 _ (by omega), tb_add _ _ _ h, tb_add _ _ _ h, show (4503599627370496 : Nat) = 2 ^ 52 from rfl, Nat.testBit_two_pow]
    by_cases hi : i < 52
    · simp [hi]; omega
    · rw [if_neg hi, if_neg hi]
      by_cases h52 : 52 = i
      · subst h52; simp [Nat.testBit_zero]; omega
      · obtain ⟨j, hj⟩ : ∃ j, i - 52 = j + 1 := ⟨i - 53, by omega⟩
        rw [hj, Nat.testBit_succ, Nat.testBit_succ, show (a - 1) / 2 = a / 2 from by omega]
        simp [h52]
        intro h1
        have := Nat.testBit_lt_two_pow (x := a / 2) (i := j)
        by_cases h64 : i < 64
        · exact h64
        · exfalso
          have : a / 2 < 2 ^ j := by
            have : 2 ^ 11 <= 2 ^ j := Nat.pow_le_pow_right (by omega) (by omega)
            omega
          rw [Nat.testBit_lt_two_pow this] at h1; cases h1
  exact (congrArg (fun n : Nat => IntKind.u64.wrap (n : Int)) key).trans (IntWalk.u64_in _ (by constructor <;> omega))
def PackPost (neg : Bool) (r : Nat) (e : Int) (w : World) (e' : Ending) (w' : World) : Prop :=
  w = w' /\ if 2 ^ 52 <= r /\ r < 2 ^ 53 then
    (if 972 <= e then ∃ x, e' = .returned (.tuple #[.float .f64 x, .iface 150 (.int .i64 1)])
     else e' = .returned (.tuple #[.float .f64 (sg neg + (r - 2 ^ 52) + (1075 + e).toNat * 2 ^ 52), .nilIface]))
    else e' = .returned (.tuple #[.float .f64 (sg neg + r), .nilIface])
theorem ret_pair {x y : Nat} (h : x = y) : Ending.returned (.tuple #[.float .f64 x, .nilIface]) = .returned (.tuple #[.float .f64 y, .nilIface]) := by rw [h]
theorem pack64_any (neg : Bool) (m r : Nat) (e : Int) (w : World) (hm : m = sg neg + r) (hr : r <= 9007199254740992) (h1 : -1074 <= e) (h2 : e <= 3000) :
    Calls Tryz.prog 158 #[.int .u64 m, .int .i64 e] w (PackPost neg r e w) := by
  have hfb := fun n => run_frombits n
  have hsg : sg neg = 2 ^ 52 * (2048 * neg.toNat) := by cases neg <;> rfl
  have hneg : neg.toNat <= 1 := by cases neg <;> decide
  obtain ⟨a, ha⟩ : ∃ a, a = 2048 * neg.toNat + r / 2 ^ 52 := ⟨_, rfl⟩
  obtain ⟨lo, hlo⟩ : ∃ lo, lo = r % 2 ^ 52 := ⟨_, rfl⟩
  have hml : m = 2 ^ 52 * a + lo := by rw [hm, hsg, ha, hlo]; omega
  have hl : lo < 2 ^ 52 := by omega
  have ha4 : a < 4096 := by omega
  have hand : bits .and .u64 (m : Int) 4503599627370496 = ((a % 2 * 2 ^ 52 : Nat) : Int) := by
    rw [show (4503599627370496 : Int) = ((2 ^ 52 : Nat) : Int) from rfl, bits_and_u64 _ _ (by omega) (by omega), hml, and52 a lo hl]
  by_cases hodd : a % 2 = 1
  · have hr2 : 2 ^ 52 <= r /\ r < 2 ^ 53 := by omega
    have hb : (bits .and .u64 (m : Int) 4503599627370496 == 0) = false := by rw [hand, hodd, beq_eq_false_iff_ne]; decide
    by_cases he : 972 <= e
    · have HH := Lib.hid (And.intro hr2 hml)
      clear hand hodd hr2 hml hm ha hlo hsg
      go_enter Tryz.func158, Tryz.ntmps158
      go_wp2
      go_returns
      refine ⟨rfl, ?_⟩
      rw [if_pos HH.out.1, if_pos he]
      exact ⟨_, rfl⟩
    · have hE : (1075 + e).toNat < 2047 := by omega
      have hnot : bits .andNot .u64 (m : Int) 4503599627370496 = ((2 ^ 52 * (a - 1) + lo : Nat) : Int) := by rw [hml]; exact andNot52 a lo hl ha4 hodd
      have hor : (2 ^ 52 * (a - 1) + lo) ||| (2 ^ 52 * (1075 + e).toNat) = 2 ^ 52 * (2048 * neg.toNat + (1075 + e).toNat) + lo := by
        rw [or_shift _ _ _ hl]
        congr 2
        have : a - 1 = 2 ^ 11 * neg.toNat := by omega
        rw [this, <- Nat.two_pow_add_eq_or_of_lt (show (1075 + e).toNat < 2 ^ 11 by omega)]
      have HH := Lib.hid (And.intro hr2 (And.intro hml (And.intro hnot (And.intro hor (And.intro hsg (And.intro ha hlo))))))
      clear hand hodd hr2 hml hm ha hlo hsg hnot hor
      go_enter Tryz.func158, Tryz.ntmps158
      go_wp2
      go_returns
      refine ⟨rfl, ?_⟩
      obtain ⟨hr2, hml, hnot, hor, hsg, ha, hlo⟩ := HH.out
      rw [if_pos hr2, if_neg (by omega)]
      refine ret_pair ?_
      show (bits .or .u64 (bits .andNot .u64 (m : Int) 4503599627370496) ((1075 + e) * 4503599627370496)).toNat = _
      rw [hnot, show ((1075 + e) * 4503599627370496) = ((2 ^ 52 * (1075 + e).toNat : Nat) : Int) from by omega, bits_or_u64 _ _ (by omega) (by omega), hor, Int.toNat_natCast]; omega
  · have hr2 : ¬ (2 ^ 52 <= r /\ r < 2 ^ 53) := by omega
    have hb : (bits .and .u64 (m : Int) 4503599627370496 == 0) = true := by rw [hand, show a % 2 = 0 from by omega]; decide
    have HH := Lib.hid (And.intro hr2 (And.intro hml hm))
    clear hand hodd hr2 hml hm ha hlo hsg
    go_enter Tryz.func158, Tryz.ntmps158
    go_wp2
    go_returns
    refine ⟨rfl, ?_⟩
    rw [if_neg HH.out.1]
    exact ret_pair (by rw [<- HH.out.2.2])
theorem rows_ok : Pinned.pow10Rows.all (fun r => Nat.ble 9223372036854775808 r.1 && Nat.blt r.1 18446744073709551616 && Nat.blt r.2 18446744073709551616) = true := by decide +kernel
theorem rows_len : Pinned.pow10Rows.length = 696 := by decide +kernel
theorem row_at (p : Int) (h1 : -348 <= p) (h2 : p <= 347) : 9223372036854775808 <= hiAt p /\ hiAt p < 18446744073709551616 /\ loAt p < 18446744073709551616 := by
 have hlt : (p + 348).toNat < Pinned.pow10Rows.length := by rw [rows_len]; omega
 have h := List.all_eq_true.1 rows_ok (Pinned.pow10Rows[(p + 348).toNat]) (List.getElem_mem hlt)
 simp only [Bool.and_eq_true, Nat.ble_eq, Nat.blt_eq] at h
 unfold hiAt loAt
 rw [List.getD_eq_getElem?_getD, List.getElem?_eq_getElem hlt]
 exact ⟨h.1.1, h.1.2, h.2⟩
def parseN (d : Nat) (p : Int) : Option (Nat × Int) :=
 let b := blen d
 let lp := p * 108853 / 32768
 let e := min 1074 (53 - (b : Int) - lp)
 let s := -(e - (64 - (b : Int)) + lp + 3)
 if 64 <= s then none
 else
  let u := uscaleN (d * 2 ^ (64 - b)) (hiAt p) (loAt p) s.toNat
  let u' := if 36028797018963966 <= u then (if u % 2 = 1 then u / 2 / 2 * 2 + 1 else u / 2) else u
  let e' := if 36028797018963966 <= u then e - 1 else e
  some ((u' + 1 + u' / 4 % 2) / 4, -e')
def ParsePost (neg : Bool) (d : Nat) (p : Int) (w : World) (e' : Ending) (w' : World) : Prop :=
 Below w.heap.size w w' /\ match parseN d p with
  | none => e' = .returned (.tuple #[.float .f64 (sg neg), .nilIface])
  | some (r, e) => r <= 9007199254740992 /\ -1074 <= e /\ PackPost neg r e w' e' w'
theorem uscaleN_lt (x hi lo s : Nat) (hx : x < 18446744073709551616) (hhi : hi < 18446744073709551616) (hs : 8 <= s) : uscaleN x hi lo s < 72057594037927936 := by
 have hl1 : x * hi / 18446744073709551616 < 18446744073709551616 := by
  rw [Nat.div_lt_iff_lt_mul (by omega)]; exact Nat.mul_lt_mul'' hx hhi
 have key : ∀ t, t < 18446744073709551616 -> t / 2 ^ s < 72057594037927936 := by
  intro t ht
  rw [Nat.div_lt_iff_lt_mul (Nat.two_pow_pos s)]
  have : 2 ^ 8 <= 2 ^ s := Nat.pow_le_pow_right (by omega) hs
  omega
 unfold uscaleN
 generalize x * hi / 18446744073709551616 = top at hl1 ⊢
 have k1 := key top hl1
 have k2 := key (top - 1) (by omega)
 have k3 : (top - 0) / 2 ^ s < 72057594037927936 := k1
 simp only []
 repeat' split
 all_goals omega
end Go.Proofs.YtdfolbmoohcblaaGreatDoor
