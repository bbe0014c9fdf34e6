/-
For FnReadAgain, part 7: W5.
-/
import Derived.Test.YtdfolbmoohcblaaGreatDoorM06
import Derived.Laws.FloatArith
set_option linter.all false
namespace Go.Proofs.YtdfolbmoohcblaaGreatDoor
set_option maxHeartbeats 1000000
set_option maxRecDepth 100000
open Go.RowKit
def p10s : List Nat := [4607182418800017408, 4621819117588971520, 4636737291354636288, 4652007308841189376, 4666723172467343360, 4681608360884174848, 4696837146684686336, 4711630319722168320, 4726483295884279808, 4741671816366391296, 4756540486875873280, 4771362005757984768, 4786511204640096256, 4801453603149578240, 4816244402031689728, 4831355200913801216, 4846369599423283200, 4861130398305394688, 4876203697187506176, 4891288408196988160, 4906019910204099648, 4921056587992461136, 4936209963552724370]
def p10 (i : Nat) : Nat := p10s.getD i 0
theorem p10_ok : (List.range 23).all (fun i => p10 i == Ieee.double.nearest false (10 ^ i) 0) = true := by decide +kernel
structure Exa (w : World) : Prop where
 bits : w.cell? ⟨14, 0, none⟩ = some (.int .u64 52)
 pows : ∃ g o c, w.cell? ⟨19, 0, none⟩ = some (.slice (some ⟨g, o, none⟩) 23 c) /\ ∀ i, i < 23 -> w.cell? ⟨g, o + i, none⟩ = some (.float .f64 (p10 i))
theorem Exa.below {w w' : World} (h : Exa w) (hb : Below w.heap.size w w') : Exa w' := by
 obtain ⟨h1, g, o, c, h2, h3⟩ := h
 exact ⟨cell_later hb h1, g, o, c, cell_later hb h2, fun i hi => cell_later hb (h3 i hi)⟩
def fmul (x y : Nat) : Nat := (floatBits .mul .f64 x y).getD 0
def fquo (x y : Nat) : Nat := (floatBits .quo .f64 x y).getD 0
def fgt (x y : Nat) : Bool := FloatKind.f64.format.order x y == some .gt
def flt (x y : Nat) : Bool := FloatKind.f64.format.order x y == some .lt
def exactF (m : Nat) (neg : Bool) : Nat := if neg then Op.negFloat .f64 (floatOfInt .f64 m) else floatOfInt .f64 m
def exactN (m : Nat) (e : Int) (neg : Bool) : Option Nat :=
 if 4503599627370496 <= m then none
 else if e = 0 then some (exactF m neg)
 else if 0 < e /\ e <= 37 then
  let f1 := if 22 < e then fmul (exactF m neg) (p10 (e - 22).toNat) else exactF m neg
  let e1 := if 22 < e then 22 else e
  if fgt f1 4831355200913801216 || flt f1 14054727237768577024 then none else some (fmul f1 (p10 e1.toNat))
 else if -22 <= e /\ e < 0 then some (fquo (exactF m neg) (p10 (-e).toNat))
 else none
def NN (x : Nat) : Prop := (Ieee.double.read x).isNaN = false
theorem p10_read : (List.range 23).all (fun i => match Ieee.double.read (p10 i) with | .number false n _ => n != 0 | _ => false) = true := by decide +kernel
theorem p10_num (i : Nat) (h : i < 23) : ∃ n j, Ieee.double.read (p10 i) = .number false n j /\ n ≠ 0 := by
 have := List.all_eq_true.1 p10_read i (List.mem_range.2 h)
 revert this
 cases hr : Ieee.double.read (p10 i) with
 | number s n j => cases s <;> simp
 | infinity s => simp
 | nan s f => simp
theorem word_nn (neg : Bool) (r : Nat) (h : r <= Ieee.double.infRung) : NN (Ieee.double.word neg r) := by
 have hi : Ieee.double.infRung = 9218868437227405312 := by decide
 have hs : Ieee.double.signWeight = 9223372036854775808 := by decide
 have hw : Ieee.double.word neg r % Ieee.double.signWeight = r := by
  unfold Ieee.Format.word
  rw [hs]
  split <;> omega
 unfold NN Ieee.Format.read
 simp only [hw]
 split
 ·rfl
 ·split
  ·rfl
  ·rw [if_pos (by omega)]; rfl
theorem nearest_nn (neg : Bool) (mag : Nat) (place : Int) : NN (Ieee.double.nearest neg mag place) := by
 unfold Ieee.Format.nearest
 split
 ·exact word_nn _ _ (Nat.zero_le _)
 ·exact word_nn _ _ (Nat.min_le_right _ _)
theorem fmul_some (x i : Nat) (hx : NN x) (hi : i < 23) : floatBits .mul .f64 x (p10 i) = some (fmul x (p10 i)) /\ NN (fmul x (p10 i)) := by
 obtain ⟨n, j, hr, hn⟩ := p10_num i hi
 unfold fmul floatBits
 simp only [FloatKind.format, Ieee.Format.mul, hr]
 unfold NN at hx
 cases hd : Ieee.double.read x with
 | number s m k => exact ⟨rfl, nearest_nn _ _ _⟩
 | infinity s => simp only [Ieee.Datum.product, if_neg hn]; exact ⟨rfl, word_nn _ _ (Nat.le_refl _)⟩
 | nan s f => rw [hd] at hx; cases hx
theorem fquo_some (x i : Nat) (hx : NN x) (hi : i < 23) : floatBits .quo .f64 x (p10 i) = some (fquo x (p10 i)) /\ NN (fquo x (p10 i)) := by
 obtain ⟨n, j, hr, hn⟩ := p10_num i hi
 unfold fquo floatBits
 simp only [FloatKind.format, Ieee.Format.div, hr]
 unfold NN at hx
 cases hd : Ieee.double.read x with
 | number s m k => simp only [Ieee.Datum.quotient, if_neg hn]; exact ⟨rfl, nearest_nn _ _ _⟩
 | infinity s => exact ⟨rfl, word_nn _ _ (Nat.le_refl _)⟩
 | nan s f => rw [hd] at hx; cases hx
theorem nearest_lt63 (mag : Nat) (place : Int) : Ieee.double.nearest false mag place < 9223372036854775808 := by
 have hi : Ieee.double.infRung = 9218868437227405312 := by decide
 unfold Ieee.Format.nearest Ieee.Format.word
 split
 ·simp only [Bool.false_eq_true, if_false]; omega
 ·simp only [Bool.false_eq_true, if_false]
  exact Nat.lt_of_le_of_lt (Nat.min_le_right _ _) (by omega)
theorem neg_xor (y : Nat) (hlt : y < 2 ^ 63) : y ^^^ 2 ^ 63 = 2 ^ 63 + y := by
 have := Nat.two_pow_add_eq_or_of_lt (i := 63) hlt 1
 rw [Nat.mul_one] at this
 rw [this]
 apply Nat.eq_of_testBit_eq
 intro i
 rw [Nat.testBit_xor, Nat.testBit_or, Nat.testBit_two_pow]
 by_cases h63 : 63 = i
 ·subst h63
  rw [Nat.testBit_lt_two_pow hlt]; simp
 ·simp [h63]
theorem neg_word (y : Nat) (hlt : y < 2 ^ 63) : Op.negFloat .f64 y = Ieee.double.word true y := neg_xor y hlt
theorem ofInt_nearest (m : Nat) : floatOfInt .f64 (m : Int) = Ieee.double.nearest false m 0 := by
 have e : floatOfInt .f64 (m : Int) = Ieee.double.nearest (decide ((m : Int) < 0)) (m : Int).natAbs 0 := rfl
 rw [e, decide_eq_false (by omega), Int.natAbs_natCast]
theorem nn_le (y : Nat) (hm : NN y) (hlt : y < 9223372036854775808) : y <= Ieee.double.infRung := by
 unfold NN Ieee.Format.read at hm
 have hi : Ieee.double.infRung = 9218868437227405312 := by decide
 have hs : Ieee.double.signWeight = 9223372036854775808 := by decide
 have hb : Ieee.double.binade = 4503599627370496 := by decide
 rw [hs, Nat.mod_eq_of_lt hlt] at hm
 simp only [] at hm
 split at hm
 ·omega
 ·split at hm
  ·omega
  ·split at hm
   ·omega
   ·cases hm
theorem exactF_nn (m : Nat) (neg : Bool) : NN (exactF m neg) := by
 unfold exactF
 rw [ofInt_nearest]
 have hm := nearest_nn false m 0
 have hlt := nearest_lt63 m 0
 generalize Ieee.double.nearest false m 0 = y at hm hlt
 cases neg
 ·rw [if_neg (by decide)]; exact hm
 ·rw [if_pos rfl, neg_word y hlt]
  exact word_nn _ _ (nn_le y hm hlt)
theorem exactN_nn (m : Nat) (e : Int) (neg : Bool) (r : Nat) (h : exactN m e neg = some r) : NN r := by
 unfold exactN at h
 have hf := exactF_nn m neg
 split at h
 ·cases h
 ·split at h
  ·cases h; exact hf
  ·split at h
   ·by_cases h22 : 22 < e
    ·simp only [if_pos h22] at h
     split at h
     ·cases h
     ·cases h
      exact (fmul_some _ _ (fmul_some _ _ hf (by omega)).2 (by omega)).2
    ·simp only [if_neg h22] at h
     split at h
     ·cases h
     ·cases h
      exact (fmul_some _ _ hf (by omega)).2
   ·split at h
    ·cases h; exact (fquo_some _ _ hf (by omega)).2
    ·cases h
theorem run_neg (x : Nat) (w : World) : (Op.unary .neg (.float .f64 x)).run Tryz.prog w = .ok (.float .f64 (Op.negFloat .f64 x)) w := rfl
theorem run_fgt (t : TypeId) (x y : Nat) (w : World) : (binOp .gtr t (.float .f64 x) (.float .f64 y)).run Tryz.prog w = .ok (.bool (fgt x y)) w := rfl
theorem run_flt (t : TypeId) (x y : Nat) (w : World) : (binOp .lss t (.float .f64 x) (.float .f64 y)).run Tryz.prog w = .ok (.bool (flt x y)) w := rfl
def ExactPost (m : Nat) (e : Int) (neg : Bool) (w : World) (e' : Ending) (w' : World) : Prop :=
 w = w' /\ match exactN m e neg with
  | none => ∃ x, e' = .returned (.tuple #[.float .f64 x, .bool false])
  | some r => e' = .returned (.tuple #[.float .f64 r, .bool true])
theorem exact_zero_pos (m : Nat) (e : Int) (w : World) (hw : Exa w) (hm : m < 18446744073709551616) (h1 : -100000 <= e) (h2 : e <= 100000) (hbig : (m : Int) < 4503599627370496) (h0 : e = 0) :
  Calls Tryz.prog 144 #[.int .u64 m, .int .i64 e, .bool false] w (ExactPost m e false w) := by
 obtain ⟨cb, g, oo, c, cs, ct⟩ := hw
 have hz : ((m : Int) / 4503599627370496 != 0) = false := by rw [bne_eq_false_iff_eq]; omega
 obtain ⟨f, hf⟩ : ∃ f, floatOfInt FloatKind.f64 (m : Int) = f := ⟨_, rfl⟩
 have hF : exactF m false = f := by unfold exactF; rw [if_neg (by decide), hf]
 have hnn := exactF_nn m false
 rw [hF] at hnn
 have hmb : ¬ 4503599627370496 <= m := by omega
 have HB := Lib.hid (And.intro hmb hF)
 clear hmb hF
 go_enter Tryz.func144, Tryz.ntmps144
 go_wp2_with (first | rw [hf])
 go_returns
 refine ⟨rfl, ?_⟩
 unfold exactN
 rw [if_neg HB.out.1, if_pos h0, HB.out.2]; rfl
theorem exact_zero_neg (m : Nat) (e : Int) (w : World) (hw : Exa w) (hm : m < 18446744073709551616) (h1 : -100000 <= e) (h2 : e <= 100000) (hbig : (m : Int) < 4503599627370496) (h0 : e = 0) :
  Calls Tryz.prog 144 #[.int .u64 m, .int .i64 e, .bool true] w (ExactPost m e true w) := by
 obtain ⟨cb, g, oo, c, cs, ct⟩ := hw
 have hz : ((m : Int) / 4503599627370496 != 0) = false := by rw [bne_eq_false_iff_eq]; omega
 obtain ⟨f0, hf0⟩ : ∃ f0, floatOfInt FloatKind.f64 (m : Int) = f0 := ⟨_, rfl⟩
 obtain ⟨f, hf⟩ : ∃ f, Op.negFloat .f64 f0 = f := ⟨_, rfl⟩
 have hun := fun w => run_neg f0 w
 rw [hf] at hun
 have hF : exactF m true = f := by unfold exactF; rw [if_pos rfl, hf0, hf]
 have hnn := exactF_nn m true
 rw [hF] at hnn
 have hmb : ¬ 4503599627370496 <= m := by omega
 have HB := Lib.hid (And.intro hmb hF)
 clear hmb hF
 go_enter Tryz.func144, Tryz.ntmps144
 go_wp2_with (first | rw [hf0] | (rw [hun]; go_simp))
 go_returns
 refine ⟨rfl, ?_⟩
 unfold exactN
 rw [if_neg HB.out.1, if_pos h0, HB.out.2]; rfl
theorem exact_big (m : Nat) (e : Int) (neg : Bool) (w : World) (hw : Exa w) (hm : m < 18446744073709551616) (hbig : 4503599627370496 <= (m : Int)) :
  Calls Tryz.prog 144 #[.int .u64 m, .int .i64 e, .bool neg] w (ExactPost m e neg w) := by
 obtain ⟨cb, g, oo, c, cs, ct⟩ := hw
 have hz : ((m : Int) / 4503599627370496 != 0) = true := by rw [bne_iff_ne]; omega
 clear ct
 go_enter Tryz.func144, Tryz.ntmps144
 go_wp2_with fail
 go_returns
 refine ⟨rfl, ?_⟩
 unfold exactN
 rw [if_pos (by omega)]; exact ⟨_, rfl⟩
theorem exact_pos_under_stop (m : Nat) (e : Int) (w : World) (hw : Exa w) (hm : m < 18446744073709551616) (h1 : -100000 <= e) (h2 : e <= 100000) (hbig : (m : Int) < 4503599627370496) (h0 : 0 < e) (h37 : e <= 37) (h22 : e <= 22) (ha : fgt (exactF m false) 4831355200913801216 = true) :
  Calls Tryz.prog 144 #[.int .u64 m, .int .i64 e, .bool false] w (ExactPost m e false w) := by
 obtain ⟨cb, g, oo, c, cs, ct⟩ := hw
 have hz : ((m : Int) / 4503599627370496 != 0) = false := by rw [bne_eq_false_iff_eq]; omega
 obtain ⟨f, hf⟩ : ∃ f, floatOfInt FloatKind.f64 (m : Int) = f := ⟨_, rfl⟩
 have hF : exactF m false = f := by unfold exactF; rw [if_neg (by decide), hf]
 have hnn := exactF_nn m false
 rw [hF] at hnn
 have hmb : ¬ 4503599627370496 <= m := by omega
 have HB := Lib.hid (And.intro hmb hF)
 clear hmb hF
 have h0b : ((e : Int) == 0) = false := by rw [beq_eq_false_iff_ne]; omega
 rw [HB.out.2] at ha
 have c2 := ct e.toNat (by omega)
 obtain ⟨m2, hnn2⟩ := fmul_some f e.toNat hnn (by omega)
 obtain ⟨y2, hy2⟩ : ∃ y2, p10 e.toNat = y2 := ⟨_, rfl⟩
 rw [hy2] at c2
 have h22b : decide (22 < e) = false := decide_eq_false (by omega)
 rw [hy2] at m2
 obtain ⟨x2, hx2⟩ : ∃ x2, fmul f y2 = x2 := ⟨_, rfl⟩
 rw [hx2] at m2
 have hop2 : ∀ t w, (binOp .mul t (.float .f64 f) (.float .f64 y2)).run Tryz.prog w = .ok (.float .f64 x2) w := fun t w => run_float_arith w .mul t .f64 f y2 x2 m2
 have hgt := ha
 unfold fgt at hgt
 have HA := Lib.hid (And.intro ha hx2)
 have HH := Lib.hid hy2
 have HX := Lib.hid hx2
 clear ha  hx2 hnn hy2 ct hnn2 m2
 go_enter Tryz.func144, Tryz.ntmps144
 go_wp2_with (first | rw [hf] | rw [h22b] | simp only [hop2] | rw [hgt])
 go_returns
 refine ⟨rfl, ?_⟩
 unfold exactN
 rw [if_neg HB.out.1, if_neg (by omega), if_pos (by omega), HB.out.2]
 simp only [if_neg (show ¬ 22 < e by omega)]
 rw [HA.out.1]
 exact ⟨_, rfl⟩
theorem exact_pos_under_stop2 (m : Nat) (e : Int) (w : World) (hw : Exa w) (hm : m < 18446744073709551616) (h1 : -100000 <= e) (h2 : e <= 100000) (hbig : (m : Int) < 4503599627370496) (h0 : 0 < e) (h37 : e <= 37) (h22 : e <= 22) (ha : fgt (exactF m false) 4831355200913801216 = false) (hb : flt (exactF m false) 14054727237768577024 = true) :
  Calls Tryz.prog 144 #[.int .u64 m, .int .i64 e, .bool false] w (ExactPost m e false w) := by
 obtain ⟨cb, g, oo, c, cs, ct⟩ := hw
 have hz : ((m : Int) / 4503599627370496 != 0) = false := by rw [bne_eq_false_iff_eq]; omega
 obtain ⟨f, hf⟩ : ∃ f, floatOfInt FloatKind.f64 (m : Int) = f := ⟨_, rfl⟩
 have hF : exactF m false = f := by unfold exactF; rw [if_neg (by decide), hf]
 have hnn := exactF_nn m false
 rw [hF] at hnn
 have hmb : ¬ 4503599627370496 <= m := by omega
 have HB := Lib.hid (And.intro hmb hF)
 clear hmb hF
 have h0b : ((e : Int) == 0) = false := by rw [beq_eq_false_iff_ne]; omega
 rw [HB.out.2] at ha
 rw [HB.out.2] at hb
 have c2 := ct e.toNat (by omega)
 obtain ⟨m2, hnn2⟩ := fmul_some f e.toNat hnn (by omega)
 obtain ⟨y2, hy2⟩ : ∃ y2, p10 e.toNat = y2 := ⟨_, rfl⟩
 rw [hy2] at c2
 have h22b : decide (22 < e) = false := decide_eq_false (by omega)
 rw [hy2] at m2
 obtain ⟨x2, hx2⟩ : ∃ x2, fmul f y2 = x2 := ⟨_, rfl⟩
 rw [hx2] at m2
 have hop2 : ∀ t w, (binOp .mul t (.float .f64 f) (.float .f64 y2)).run Tryz.prog w = .ok (.float .f64 x2) w := fun t w => run_float_arith w .mul t .f64 f y2 x2 m2
 have hgt := ha
 unfold fgt at hgt
 have hlt := hb
 unfold flt at hlt
 have HA := Lib.hid (And.intro ha hb)
 have HH := Lib.hid hy2
 have HX := Lib.hid hx2
 clear ha hb hx2 hnn hy2 ct hnn2 m2
 go_enter Tryz.func144, Tryz.ntmps144
 go_wp2_with (first | rw [hf] | rw [h22b] | simp only [hop2] | rw [hgt] | rw [hlt])
 go_returns
 refine ⟨rfl, ?_⟩
 unfold exactN
 rw [if_neg HB.out.1, if_neg (by omega), if_pos (by omega), HB.out.2]
 simp only [if_neg (show ¬ 22 < e by omega)]
 rw [HA.out.1, HA.out.2]
 exact ⟨_, rfl⟩
theorem exact_pos_under_go (m : Nat) (e : Int) (w : World) (hw : Exa w) (hm : m < 18446744073709551616) (h1 : -100000 <= e) (h2 : e <= 100000) (hbig : (m : Int) < 4503599627370496) (h0 : 0 < e) (h37 : e <= 37) (h22 : e <= 22) (ha : fgt (exactF m false) 4831355200913801216 = false) (hb : flt (exactF m false) 14054727237768577024 = false) :
  Calls Tryz.prog 144 #[.int .u64 m, .int .i64 e, .bool false] w (ExactPost m e false w) := by
 obtain ⟨cb, g, oo, c, cs, ct⟩ := hw
 have hz : ((m : Int) / 4503599627370496 != 0) = false := by rw [bne_eq_false_iff_eq]; omega
 obtain ⟨f, hf⟩ : ∃ f, floatOfInt FloatKind.f64 (m : Int) = f := ⟨_, rfl⟩
 have hF : exactF m false = f := by unfold exactF; rw [if_neg (by decide), hf]
 have hnn := exactF_nn m false
 rw [hF] at hnn
 have hmb : ¬ 4503599627370496 <= m := by omega
 have HB := Lib.hid (And.intro hmb hF)
 clear hmb hF
 have h0b : ((e : Int) == 0) = false := by rw [beq_eq_false_iff_ne]; omega
 rw [HB.out.2] at ha
 rw [HB.out.2] at hb
 have c2 := ct e.toNat (by omega)
 obtain ⟨m2, hnn2⟩ := fmul_some f e.toNat hnn (by omega)
 obtain ⟨y2, hy2⟩ : ∃ y2, p10 e.toNat = y2 := ⟨_, rfl⟩
 rw [hy2] at c2
 have h22b : decide (22 < e) = false := decide_eq_false (by omega)
 rw [hy2] at m2
 obtain ⟨x2, hx2⟩ : ∃ x2, fmul f y2 = x2 := ⟨_, rfl⟩
 rw [hx2] at m2
 have hop2 : ∀ t w, (binOp .mul t (.float .f64 f) (.float .f64 y2)).run Tryz.prog w = .ok (.float .f64 x2) w := fun t w => run_float_arith w .mul t .f64 f y2 x2 m2
 have hgt := ha
 unfold fgt at hgt
 have hlt := hb
 unfold flt at hlt
 have HA := Lib.hid (And.intro ha hb)
 have HH := Lib.hid hy2
 have HX := Lib.hid hx2
 clear ha hb hx2 hnn hy2 ct hnn2 m2
 go_enter Tryz.func144, Tryz.ntmps144
 go_wp2_with (first | rw [hf] | rw [h22b] | simp only [hop2] | rw [hgt] | rw [hlt])
 go_returns
 refine ⟨rfl, ?_⟩
 unfold exactN
 rw [if_neg HB.out.1, if_neg (by omega), if_pos (by omega), HB.out.2]
 simp only [if_neg (show ¬ 22 < e by omega)]
 rw [HA.out.1, HA.out.2]
 rw [if_neg (by decide), HH.out, HX.out]; rfl
theorem exact_pos_over_stop (m : Nat) (e : Int) (w : World) (hw : Exa w) (hm : m < 18446744073709551616) (h1 : -100000 <= e) (h2 : e <= 100000) (hbig : (m : Int) < 4503599627370496) (h0 : 0 < e) (h37 : e <= 37) (h22 : 22 < e) (ha : fgt (fmul (exactF m false) (p10 (e - 22).toNat)) 4831355200913801216 = true) :
  Calls Tryz.prog 144 #[.int .u64 m, .int .i64 e, .bool false] w (ExactPost m e false w) := by
 obtain ⟨cb, g, oo, c, cs, ct⟩ := hw
 have hz : ((m : Int) / 4503599627370496 != 0) = false := by rw [bne_eq_false_iff_eq]; omega
 obtain ⟨f, hf⟩ : ∃ f, floatOfInt FloatKind.f64 (m : Int) = f := ⟨_, rfl⟩
 have hF : exactF m false = f := by unfold exactF; rw [if_neg (by decide), hf]
 have hnn := exactF_nn m false
 rw [hF] at hnn
 have hmb : ¬ 4503599627370496 <= m := by omega
 have HB := Lib.hid (And.intro hmb hF)
 clear hmb hF
 have h0b : ((e : Int) == 0) = false := by rw [beq_eq_false_iff_ne]; omega
 rw [HB.out.2] at ha
 have c1 := ct (e - 22).toNat (by omega)
 obtain ⟨m1, hnn1⟩ := fmul_some f (e - 22).toNat hnn (by omega)
 have c2 := ct 22 (by omega)
 obtain ⟨x1, hx1⟩ : ∃ x1, fmul f (p10 (e - 22).toNat) = x1 := ⟨_, rfl⟩
 obtain ⟨y1, hy1⟩ : ∃ y1, p10 (e - 22).toNat = y1 := ⟨_, rfl⟩
 obtain ⟨m2, hnn2⟩ := fmul_some x1 22 (hx1 ▸ hnn1) (by omega)
 rw [hy1] at c1 m1 hx1
 rw [hx1] at m1
 rw [hy1, hx1] at ha
 have hop1 : ∀ t w, (binOp .mul t (.float .f64 f) (.float .f64 y1)).run Tryz.prog w = .ok (.float .f64 x1) w := fun t w => run_float_arith w .mul t .f64 f y1 x1 m1
 obtain ⟨y2, hy2⟩ : ∃ y2, p10 22 = y2 := ⟨_, rfl⟩
 rw [hy2] at c2
 rw [hy2] at m2
 obtain ⟨x2, hx2⟩ : ∃ x2, fmul x1 y2 = x2 := ⟨_, rfl⟩
 rw [hx2] at m2
 have hop2 : ∀ t w, (binOp .mul t (.float .f64 x1) (.float .f64 y2)).run Tryz.prog w = .ok (.float .f64 x2) w := fun t w => run_float_arith w .mul t .f64 x1 y2 x2 m2
 have hgt := ha
 unfold fgt at hgt
 have HA := Lib.hid (And.intro ha hx2)
 have HH := Lib.hid (And.intro hy1 (And.intro hx1 hy2))
 have HX := Lib.hid hx2
 clear ha  hx2 hy1 hx1 hnn1 hnn hy2 ct hnn2 m2 m1
 go_enter Tryz.func144, Tryz.ntmps144
 go_wp2_with (first | rw [hf] | (simp only [hop1]; done) | simp only [hop1] | simp only [hop2] | rw [hgt])
 go_returns
 refine ⟨rfl, ?_⟩
 unfold exactN
 rw [if_neg HB.out.1, if_neg (by omega), if_pos (by omega), HB.out.2]
 simp only [if_pos h22]
 rw [HH.out.1, HH.out.2.1, HA.out.1]
 exact ⟨_, rfl⟩
theorem exact_pos_over_stop2 (m : Nat) (e : Int) (w : World) (hw : Exa w) (hm : m < 18446744073709551616) (h1 : -100000 <= e) (h2 : e <= 100000) (hbig : (m : Int) < 4503599627370496) (h0 : 0 < e) (h37 : e <= 37) (h22 : 22 < e) (ha : fgt (fmul (exactF m false) (p10 (e - 22).toNat)) 4831355200913801216 = false) (hb : flt (fmul (exactF m false) (p10 (e - 22).toNat)) 14054727237768577024 = true) :
  Calls Tryz.prog 144 #[.int .u64 m, .int .i64 e, .bool false] w (ExactPost m e false w) := by
 obtain ⟨cb, g, oo, c, cs, ct⟩ := hw
 have hz : ((m : Int) / 4503599627370496 != 0) = false := by rw [bne_eq_false_iff_eq]; omega
 obtain ⟨f, hf⟩ : ∃ f, floatOfInt FloatKind.f64 (m : Int) = f := ⟨_, rfl⟩
 have hF : exactF m false = f := by unfold exactF; rw [if_neg (by decide), hf]
 have hnn := exactF_nn m false
 rw [hF] at hnn
 have hmb : ¬ 4503599627370496 <= m := by omega
 have HB := Lib.hid (And.intro hmb hF)
 clear hmb hF
 have h0b : ((e : Int) == 0) = false := by rw [beq_eq_false_iff_ne]; omega
 rw [HB.out.2] at ha
 rw [HB.out.2] at hb
 have c1 := ct (e - 22).toNat (by omega)
 obtain ⟨m1, hnn1⟩ := fmul_some f (e - 22).toNat hnn (by omega)
 have c2 := ct 22 (by omega)
 obtain ⟨x1, hx1⟩ : ∃ x1, fmul f (p10 (e - 22).toNat) = x1 := ⟨_, rfl⟩
 obtain ⟨y1, hy1⟩ : ∃ y1, p10 (e - 22).toNat = y1 := ⟨_, rfl⟩
 obtain ⟨m2, hnn2⟩ := fmul_some x1 22 (hx1 ▸ hnn1) (by omega)
 rw [hy1] at c1 m1 hx1
 rw [hx1] at m1
 rw [hy1, hx1] at ha
 rw [hy1, hx1] at hb
 have hop1 : ∀ t w, (binOp .mul t (.float .f64 f) (.float .f64 y1)).run Tryz.prog w = .ok (.float .f64 x1) w := fun t w => run_float_arith w .mul t .f64 f y1 x1 m1
 obtain ⟨y2, hy2⟩ : ∃ y2, p10 22 = y2 := ⟨_, rfl⟩
 rw [hy2] at c2
 rw [hy2] at m2
 obtain ⟨x2, hx2⟩ : ∃ x2, fmul x1 y2 = x2 := ⟨_, rfl⟩
 rw [hx2] at m2
 have hop2 : ∀ t w, (binOp .mul t (.float .f64 x1) (.float .f64 y2)).run Tryz.prog w = .ok (.float .f64 x2) w := fun t w => run_float_arith w .mul t .f64 x1 y2 x2 m2
 have hgt := ha
 unfold fgt at hgt
 have hlt := hb
 unfold flt at hlt
 have HA := Lib.hid (And.intro ha hb)
 have HH := Lib.hid (And.intro hy1 (And.intro hx1 hy2))
 have HX := Lib.hid hx2
 clear ha hb hx2 hy1 hx1 hnn1 hnn hy2 ct hnn2 m2 m1
 go_enter Tryz.func144, Tryz.ntmps144
 go_wp2_with (first | rw [hf] | (simp only [hop1]; done) | simp only [hop1] | simp only [hop2] | rw [hgt] | rw [hlt])
 go_returns
 refine ⟨rfl, ?_⟩
 unfold exactN
 rw [if_neg HB.out.1, if_neg (by omega), if_pos (by omega), HB.out.2]
 simp only [if_pos h22]
 rw [HH.out.1, HH.out.2.1, HA.out.1, HA.out.2]
 exact ⟨_, rfl⟩
theorem exact_pos_over_go (m : Nat) (e : Int) (w : World) (hw : Exa w) (hm : m < 18446744073709551616) (h1 : -100000 <= e) (h2 : e <= 100000) (hbig : (m : Int) < 4503599627370496) (h0 : 0 < e) (h37 : e <= 37) (h22 : 22 < e) (ha : fgt (fmul (exactF m false) (p10 (e - 22).toNat)) 4831355200913801216 = false) (hb : flt (fmul (exactF m false) (p10 (e - 22).toNat)) 14054727237768577024 = false) :
  Calls Tryz.prog 144 #[.int .u64 m, .int .i64 e, .bool false] w (ExactPost m e false w) := by
 obtain ⟨cb, g, oo, c, cs, ct⟩ := hw
 have hz : ((m : Int) / 4503599627370496 != 0) = false := by rw [bne_eq_false_iff_eq]; omega
 obtain ⟨f, hf⟩ : ∃ f, floatOfInt FloatKind.f64 (m : Int) = f := ⟨_, rfl⟩
 have hF : exactF m false = f := by unfold exactF; rw [if_neg (by decide), hf]
 have hnn := exactF_nn m false
 rw [hF] at hnn
 have hmb : ¬ 4503599627370496 <= m := by omega
 have HB := Lib.hid (And.intro hmb hF)
 clear hmb hF
 have h0b : ((e : Int) == 0) = false := by rw [beq_eq_false_iff_ne]; omega
 rw [HB.out.2] at ha
 rw [HB.out.2] at hb
 have c1 := ct (e - 22).toNat (by omega)
 obtain ⟨m1, hnn1⟩ := fmul_some f (e - 22).toNat hnn (by omega)
 have c2 := ct 22 (by omega)
 obtain ⟨x1, hx1⟩ : ∃ x1, fmul f (p10 (e - 22).toNat) = x1 := ⟨_, rfl⟩
 obtain ⟨y1, hy1⟩ : ∃ y1, p10 (e - 22).toNat = y1 := ⟨_, rfl⟩
 obtain ⟨m2, hnn2⟩ := fmul_some x1 22 (hx1 ▸ hnn1) (by omega)
 rw [hy1] at c1 m1 hx1
 rw [hx1] at m1
 rw [hy1, hx1] at ha
 rw [hy1, hx1] at hb
 have hop1 : ∀ t w, (binOp .mul t (.float .f64 f) (.float .f64 y1)).run Tryz.prog w = .ok (.float .f64 x1) w := fun t w => run_float_arith w .mul t .f64 f y1 x1 m1
 obtain ⟨y2, hy2⟩ : ∃ y2, p10 22 = y2 := ⟨_, rfl⟩
 rw [hy2] at c2
 rw [hy2] at m2
 obtain ⟨x2, hx2⟩ : ∃ x2, fmul x1 y2 = x2 := ⟨_, rfl⟩
 rw [hx2] at m2
 have hop2 : ∀ t w, (binOp .mul t (.float .f64 x1) (.float .f64 y2)).run Tryz.prog w = .ok (.float .f64 x2) w := fun t w => run_float_arith w .mul t .f64 x1 y2 x2 m2
 have hgt := ha
 unfold fgt at hgt
 have hlt := hb
 unfold flt at hlt
 have HA := Lib.hid (And.intro ha hb)
 have HH := Lib.hid (And.intro hy1 (And.intro hx1 hy2))
 have HX := Lib.hid hx2
 clear ha hb hx2 hy1 hx1 hnn1 hnn hy2 ct hnn2 m2 m1
 go_enter Tryz.func144, Tryz.ntmps144
 go_wp2_with (first | rw [hf] | (simp only [hop1]; done) | simp only [hop1] | simp only [hop2] | rw [hgt] | rw [hlt])
 go_returns
 refine ⟨rfl, ?_⟩
 unfold exactN
 rw [if_neg HB.out.1, if_neg (by omega), if_pos (by omega), HB.out.2]
 simp only [if_pos h22]
 rw [HH.out.1, HH.out.2.1, HA.out.1, HA.out.2]
 rw [if_neg (by decide), show ((22 : Int).toNat) = 22 from rfl, HH.out.2.2, HX.out]; rfl
theorem exact_neg_under_stop (m : Nat) (e : Int) (w : World) (hw : Exa w) (hm : m < 18446744073709551616) (h1 : -100000 <= e) (h2 : e <= 100000) (hbig : (m : Int) < 4503599627370496) (h0 : 0 < e) (h37 : e <= 37) (h22 : e <= 22) (ha : fgt (exactF m true) 4831355200913801216 = true) :
  Calls Tryz.prog 144 #[.int .u64 m, .int .i64 e, .bool true] w (ExactPost m e true w) := by
 obtain ⟨cb, g, oo, c, cs, ct⟩ := hw
 have hz : ((m : Int) / 4503599627370496 != 0) = false := by rw [bne_eq_false_iff_eq]; omega
 obtain ⟨f0, hf0⟩ : ∃ f0, floatOfInt FloatKind.f64 (m : Int) = f0 := ⟨_, rfl⟩
 obtain ⟨f, hf⟩ : ∃ f, Op.negFloat .f64 f0 = f := ⟨_, rfl⟩
 have hun := fun w => run_neg f0 w
 rw [hf] at hun
 have hF : exactF m true = f := by unfold exactF; rw [if_pos rfl, hf0, hf]
 have hnn := exactF_nn m true
 rw [hF] at hnn
 have hmb : ¬ 4503599627370496 <= m := by omega
 have HB := Lib.hid (And.intro hmb hF)
 clear hmb hF
 have h0b : ((e : Int) == 0) = false := by rw [beq_eq_false_iff_ne]; omega
 rw [HB.out.2] at ha
 have c2 := ct e.toNat (by omega)
 obtain ⟨m2, hnn2⟩ := fmul_some f e.toNat hnn (by omega)
 obtain ⟨y2, hy2⟩ : ∃ y2, p10 e.toNat = y2 := ⟨_, rfl⟩
 rw [hy2] at c2
 have h22b : decide (22 < e) = false := decide_eq_false (by omega)
 rw [hy2] at m2
 obtain ⟨x2, hx2⟩ : ∃ x2, fmul f y2 = x2 := ⟨_, rfl⟩
 rw [hx2] at m2
 have hop2 : ∀ t w, (binOp .mul t (.float .f64 f) (.float .f64 y2)).run Tryz.prog w = .ok (.float .f64 x2) w := fun t w => run_float_arith w .mul t .f64 f y2 x2 m2
 have hgt := ha
 unfold fgt at hgt
 have HA := Lib.hid (And.intro ha hx2)
 have HH := Lib.hid hy2
 have HX := Lib.hid hx2
 clear ha  hx2 hnn hy2 ct hnn2 m2
 go_enter Tryz.func144, Tryz.ntmps144
 go_wp2_with (first | rw [hf0] | (rw [hun]; go_simp) | rw [h22b] | simp only [hop2] | rw [hgt])
 go_returns
 refine ⟨rfl, ?_⟩
 unfold exactN
 rw [if_neg HB.out.1, if_neg (by omega), if_pos (by omega), HB.out.2]
 simp only [if_neg (show ¬ 22 < e by omega)]
 rw [HA.out.1]
 exact ⟨_, rfl⟩
theorem exact_neg_under_stop2 (m : Nat) (e : Int) (w : World) (hw : Exa w) (hm : m < 18446744073709551616) (h1 : -100000 <= e) (h2 : e <= 100000) (hbig : (m : Int) < 4503599627370496) (h0 : 0 < e) (h37 : e <= 37) (h22 : e <= 22) (ha : fgt (exactF m true) 4831355200913801216 = false) (hb : flt (exactF m true) 14054727237768577024 = true) :
  Calls Tryz.prog 144 #[.int .u64 m, .int .i64 e, .bool true] w (ExactPost m e true w) := by
 obtain ⟨cb, g, oo, c, cs, ct⟩ := hw
 have hz : ((m : Int) / 4503599627370496 != 0) = false := by rw [bne_eq_false_iff_eq]; omega
 obtain ⟨f0, hf0⟩ : ∃ f0, floatOfInt FloatKind.f64 (m : Int) = f0 := ⟨_, rfl⟩
 obtain ⟨f, hf⟩ : ∃ f, Op.negFloat .f64 f0 = f := ⟨_, rfl⟩
 have hun := fun w => run_neg f0 w
 rw [hf] at hun
 have hF : exactF m true = f := by unfold exactF; rw [if_pos rfl, hf0, hf]
 have hnn := exactF_nn m true
 rw [hF] at hnn
 have hmb : ¬ 4503599627370496 <= m := by omega
 have HB := Lib.hid (And.intro hmb hF)
 clear hmb hF
 have h0b : ((e : Int) == 0) = false := by rw [beq_eq_false_iff_ne]; omega
 rw [HB.out.2] at ha
 rw [HB.out.2] at hb
 have c2 := ct e.toNat (by omega)
 obtain ⟨m2, hnn2⟩ := fmul_some f e.toNat hnn (by omega)
 obtain ⟨y2, hy2⟩ : ∃ y2, p10 e.toNat = y2 := ⟨_, rfl⟩
 rw [hy2] at c2
 have h22b : decide (22 < e) = false := decide_eq_false (by omega)
 rw [hy2] at m2
 obtain ⟨x2, hx2⟩ : ∃ x2, fmul f y2 = x2 := ⟨_, rfl⟩
 rw [hx2] at m2
 have hop2 : ∀ t w, (binOp .mul t (.float .f64 f) (.float .f64 y2)).run Tryz.prog w = .ok (.float .f64 x2) w := fun t w => run_float_arith w .mul t .f64 f y2 x2 m2
 have hgt := ha
 unfold fgt at hgt
 have hlt := hb
 unfold flt at hlt
 have HA := Lib.hid (And.intro ha hb)
 have HH := Lib.hid hy2
 have HX := Lib.hid hx2
 clear ha hb hx2 hnn hy2 ct hnn2 m2
 go_enter Tryz.func144, Tryz.ntmps144
 go_wp2_with (first | rw [hf0] | (rw [hun]; go_simp) | rw [h22b] | simp only [hop2] | rw [hgt] | rw [hlt])
 go_returns
 refine ⟨rfl, ?_⟩
 unfold exactN
 rw [if_neg HB.out.1, if_neg (by omega), if_pos (by omega), HB.out.2]
 simp only [if_neg (show ¬ 22 < e by omega)]
 rw [HA.out.1, HA.out.2]
 exact ⟨_, rfl⟩
theorem exact_neg_under_go (m : Nat) (e : Int) (w : World) (hw : Exa w) (hm : m < 18446744073709551616) (h1 : -100000 <= e) (h2 : e <= 100000) (hbig : (m : Int) < 4503599627370496) (h0 : 0 < e) (h37 : e <= 37) (h22 : e <= 22) (ha : fgt (exactF m true) 4831355200913801216 = false) (hb : flt (exactF m true) 14054727237768577024 = false) :
  Calls Tryz.prog 144 #[.int .u64 m, .int .i64 e, .bool true] w (ExactPost m e true w) := by
 obtain ⟨cb, g, oo, c, cs, ct⟩ := hw
 have hz : ((m : Int) / 4503599627370496 != 0) = false := by rw [bne_eq_false_iff_eq]; omega
 obtain ⟨f0, hf0⟩ : ∃ f0, floatOfInt FloatKind.f64 (m : Int) = f0 := ⟨_, rfl⟩
 obtain ⟨f, hf⟩ : ∃ f, Op.negFloat .f64 f0 = f := ⟨_, rfl⟩
 have hun := fun w => run_neg f0 w
 rw [hf] at hun
 have hF : exactF m true = f := by unfold exactF; rw [if_pos rfl, hf0, hf]
 have hnn := exactF_nn m true
 rw [hF] at hnn
 have hmb : ¬ 4503599627370496 <= m := by omega
 have HB := Lib.hid (And.intro hmb hF)
 clear hmb hF
 have h0b : ((e : Int) == 0) = false := by rw [beq_eq_false_iff_ne]; omega
 rw [HB.out.2] at ha
 rw [HB.out.2] at hb
 have c2 := ct e.toNat (by omega)
 obtain ⟨m2, hnn2⟩ := fmul_some f e.toNat hnn (by omega)
 obtain ⟨y2, hy2⟩ : ∃ y2, p10 e.toNat = y2 := ⟨_, rfl⟩
 rw [hy2] at c2
 have h22b : decide (22 < e) = false := decide_eq_false (by omega)
 rw [hy2] at m2
 obtain ⟨x2, hx2⟩ : ∃ x2, fmul f y2 = x2 := ⟨_, rfl⟩
 rw [hx2] at m2
 have hop2 : ∀ t w, (binOp .mul t (.float .f64 f) (.float .f64 y2)).run Tryz.prog w = .ok (.float .f64 x2) w := fun t w => run_float_arith w .mul t .f64 f y2 x2 m2
 have hgt := ha
 unfold fgt at hgt
 have hlt := hb
 unfold flt at hlt
 have HA := Lib.hid (And.intro ha hb)
 have HH := Lib.hid hy2
 have HX := Lib.hid hx2
 clear ha hb hx2 hnn hy2 ct hnn2 m2
 go_enter Tryz.func144, Tryz.ntmps144
 go_wp2_with (first | rw [hf0] | (rw [hun]; go_simp) | rw [h22b] | simp only [hop2] | rw [hgt] | rw [hlt])
 go_returns
 refine ⟨rfl, ?_⟩
 unfold exactN
 rw [if_neg HB.out.1, if_neg (by omega), if_pos (by omega), HB.out.2]
 simp only [if_neg (show ¬ 22 < e by omega)]
 rw [HA.out.1, HA.out.2]
 rw [if_neg (by decide), HH.out, HX.out]; rfl
theorem exact_neg_over_stop (m : Nat) (e : Int) (w : World) (hw : Exa w) (hm : m < 18446744073709551616) (h1 : -100000 <= e) (h2 : e <= 100000) (hbig : (m : Int) < 4503599627370496) (h0 : 0 < e) (h37 : e <= 37) (h22 : 22 < e) (ha : fgt (fmul (exactF m true) (p10 (e - 22).toNat)) 4831355200913801216 = true) :
  Calls Tryz.prog 144 #[.int .u64 m, .int .i64 e, .bool true] w (ExactPost m e true w) := by
 obtain ⟨cb, g, oo, c, cs, ct⟩ := hw
 have hz : ((m : Int) / 4503599627370496 != 0) = false := by rw [bne_eq_false_iff_eq]; omega
 obtain ⟨f0, hf0⟩ : ∃ f0, floatOfInt FloatKind.f64 (m : Int) = f0 := ⟨_, rfl⟩
 obtain ⟨f, hf⟩ : ∃ f, Op.negFloat .f64 f0 = f := ⟨_, rfl⟩
 have hun := fun w => run_neg f0 w
 rw [hf] at hun
 have hF : exactF m true = f := by unfold exactF; rw [if_pos rfl, hf0, hf]
 have hnn := exactF_nn m true
 rw [hF] at hnn
 have hmb : ¬ 4503599627370496 <= m := by omega
 have HB := Lib.hid (And.intro hmb hF)
 clear hmb hF
 have h0b : ((e : Int) == 0) = false := by rw [beq_eq_false_iff_ne]; omega
 rw [HB.out.2] at ha
 have c1 := ct (e - 22).toNat (by omega)
 obtain ⟨m1, hnn1⟩ := fmul_some f (e - 22).toNat hnn (by omega)
 have c2 := ct 22 (by omega)
 obtain ⟨x1, hx1⟩ : ∃ x1, fmul f (p10 (e - 22).toNat) = x1 := ⟨_, rfl⟩
 obtain ⟨y1, hy1⟩ : ∃ y1, p10 (e - 22).toNat = y1 := ⟨_, rfl⟩
 obtain ⟨m2, hnn2⟩ := fmul_some x1 22 (hx1 ▸ hnn1) (by omega)
 rw [hy1] at c1 m1 hx1
 rw [hx1] at m1
 rw [hy1, hx1] at ha
 have hop1 : ∀ t w, (binOp .mul t (.float .f64 f) (.float .f64 y1)).run Tryz.prog w = .ok (.float .f64 x1) w := fun t w => run_float_arith w .mul t .f64 f y1 x1 m1
 obtain ⟨y2, hy2⟩ : ∃ y2, p10 22 = y2 := ⟨_, rfl⟩
 rw [hy2] at c2
 rw [hy2] at m2
 obtain ⟨x2, hx2⟩ : ∃ x2, fmul x1 y2 = x2 := ⟨_, rfl⟩
 rw [hx2] at m2
 have hop2 : ∀ t w, (binOp .mul t (.float .f64 x1) (.float .f64 y2)).run Tryz.prog w = .ok (.float .f64 x2) w := fun t w => run_float_arith w .mul t .f64 x1 y2 x2 m2
 have hgt := ha
 unfold fgt at hgt
 have HA := Lib.hid (And.intro ha hx2)
 have HH := Lib.hid (And.intro hy1 (And.intro hx1 hy2))
 have HX := Lib.hid hx2
 clear ha  hx2 hy1 hx1 hnn1 hnn hy2 ct hnn2 m2 m1
 go_enter Tryz.func144, Tryz.ntmps144
 go_wp2_with (first | rw [hf0] | (rw [hun]; go_simp) | (simp only [hop1]; done) | simp only [hop1] | simp only [hop2] | rw [hgt])
 go_returns
 refine ⟨rfl, ?_⟩
 unfold exactN
 rw [if_neg HB.out.1, if_neg (by omega), if_pos (by omega), HB.out.2]
 simp only [if_pos h22]
 rw [HH.out.1, HH.out.2.1, HA.out.1]
 exact ⟨_, rfl⟩
theorem exact_neg_over_stop2 (m : Nat) (e : Int) (w : World) (hw : Exa w) (hm : m < 18446744073709551616) (h1 : -100000 <= e) (h2 : e <= 100000) (hbig : (m : Int) < 4503599627370496) (h0 : 0 < e) (h37 : e <= 37) (h22 : 22 < e) (ha : fgt (fmul (exactF m true) (p10 (e - 22).toNat)) 4831355200913801216 = false) (hb : flt (fmul (exactF m true) (p10 (e - 22).toNat)) 14054727237768577024 = true) :
  Calls Tryz.prog 144 #[.int .u64 m, .int .i64 e, .bool true] w (ExactPost m e true w) := by
 obtain ⟨cb, g, oo, c, cs, ct⟩ := hw
 have hz : ((m : Int) / 4503599627370496 != 0) = false := by rw [bne_eq_false_iff_eq]; omega
 obtain ⟨f0, hf0⟩ : ∃ f0, floatOfInt FloatKind.f64 (m : Int) = f0 := ⟨_, rfl⟩
 obtain ⟨f, hf⟩ : ∃ f, Op.negFloat .f64 f0 = f := ⟨_, rfl⟩
 have hun := fun w => run_neg f0 w
 rw [hf] at hun
 have hF : exactF m true = f := by unfold exactF; rw [if_pos rfl, hf0, hf]
 have hnn := exactF_nn m true
 rw [hF] at hnn
 have hmb : ¬ 4503599627370496 <= m := by omega
 have HB := Lib.hid (And.intro hmb hF)
 clear hmb hF
 have h0b : ((e : Int) == 0) = false := by rw [beq_eq_false_iff_ne]; omega
 rw [HB.out.2] at ha
 rw [HB.out.2] at hb
 have c1 := ct (e - 22).toNat (by omega)
 obtain ⟨m1, hnn1⟩ := fmul_some f (e - 22).toNat hnn (by omega)
 have c2 := ct 22 (by omega)
 obtain ⟨x1, hx1⟩ : ∃ x1, fmul f (p10 (e - 22).toNat) = x1 := ⟨_, rfl⟩
 obtain ⟨y1, hy1⟩ : ∃ y1, p10 (e - 22).toNat = y1 := ⟨_, rfl⟩
 obtain ⟨m2, hnn2⟩ := fmul_some x1 22 (hx1 ▸ hnn1) (by omega)
 rw [hy1] at c1 m1 hx1
 rw [hx1] at m1
 rw [hy1, hx1] at ha
 rw [hy1, hx1] at hb
 have hop1 : ∀ t w, (binOp .mul t (.float .f64 f) (.float .f64 y1)).run Tryz.prog w = .ok (.float .f64 x1) w := fun t w => run_float_arith w .mul t .f64 f y1 x1 m1
 obtain ⟨y2, hy2⟩ : ∃ y2, p10 22 = y2 := ⟨_, rfl⟩
 rw [hy2] at c2
 rw [hy2] at m2
 obtain ⟨x2, hx2⟩ : ∃ x2, fmul x1 y2 = x2 := ⟨_, rfl⟩
 rw [hx2] at m2
 have hop2 : ∀ t w, (binOp .mul t (.float .f64 x1) (.float .f64 y2)).run Tryz.prog w = .ok (.float .f64 x2) w := fun t w => run_float_arith w .mul t .f64 x1 y2 x2 m2
 have hgt := ha
 unfold fgt at hgt
 have hlt := hb
 unfold flt at hlt
 have HA := Lib.hid (And.intro ha hb)
 have HH := Lib.hid (And.intro hy1 (And.intro hx1 hy2))
 have HX := Lib.hid hx2
 clear ha hb hx2 hy1 hx1 hnn1 hnn hy2 ct hnn2 m2 m1
 go_enter Tryz.func144, Tryz.ntmps144
 go_wp2_with (first | rw [hf0] | (rw [hun]; go_simp) | (simp only [hop1]; done) | simp only [hop1] | simp only [hop2] | rw [hgt] | rw [hlt])
 go_returns
 refine ⟨rfl, ?_⟩
 unfold exactN
 rw [if_neg HB.out.1, if_neg (by omega), if_pos (by omega), HB.out.2]
 simp only [if_pos h22]
 rw [HH.out.1, HH.out.2.1, HA.out.1, HA.out.2]
 exact ⟨_, rfl⟩
theorem exact_neg_over_go (m : Nat) (e : Int) (w : World) (hw : Exa w) (hm : m < 18446744073709551616) (h1 : -100000 <= e) (h2 : e <= 100000) (hbig : (m : Int) < 4503599627370496) (h0 : 0 < e) (h37 : e <= 37) (h22 : 22 < e) (ha : fgt (fmul (exactF m true) (p10 (e - 22).toNat)) 4831355200913801216 = false) (hb : flt (fmul (exactF m true) (p10 (e - 22).toNat)) 14054727237768577024 = false) :
  Calls Tryz.prog 144 #[.int .u64 m, .int .i64 e, .bool true] w (ExactPost m e true w) := by
 obtain ⟨cb, g, oo, c, cs, ct⟩ := hw
 have hz : ((m : Int) / 4503599627370496 != 0) = false := by rw [bne_eq_false_iff_eq]; omega
 obtain ⟨f0, hf0⟩ : ∃ f0, floatOfInt FloatKind.f64 (m : Int) = f0 := ⟨_, rfl⟩
 obtain ⟨f, hf⟩ : ∃ f, Op.negFloat .f64 f0 = f := ⟨_, rfl⟩
 have hun := fun w => run_neg f0 w
 rw [hf] at hun
 have hF : exactF m true = f := by unfold exactF; rw [if_pos rfl, hf0, hf]
 have hnn := exactF_nn m true
 rw [hF] at hnn
 have hmb : ¬ 4503599627370496 <= m := by omega
 have HB := Lib.hid (And.intro hmb hF)
 clear hmb hF
 have h0b : ((e : Int) == 0) = false := by rw [beq_eq_false_iff_ne]; omega
 rw [HB.out.2] at ha
 rw [HB.out.2] at hb
 have c1 := ct (e - 22).toNat (by omega)
 obtain ⟨m1, hnn1⟩ := fmul_some f (e - 22).toNat hnn (by omega)
 have c2 := ct 22 (by omega)
 obtain ⟨x1, hx1⟩ : ∃ x1, fmul f (p10 (e - 22).toNat) = x1 := ⟨_, rfl⟩
 obtain ⟨y1, hy1⟩ : ∃ y1, p10 (e - 22).toNat = y1 := ⟨_, rfl⟩
 obtain ⟨m2, hnn2⟩ := fmul_some x1 22 (hx1 ▸ hnn1) (by omega)
 rw [hy1] at c1 m1 hx1
 rw [hx1] at m1
 rw [hy1, hx1] at ha
 rw [hy1, hx1] at hb
 have hop1 : ∀ t w, (binOp .mul t (.float .f64 f) (.float .f64 y1)).run Tryz.prog w = .ok (.float .f64 x1) w := fun t w => run_float_arith w .mul t .f64 f y1 x1 m1
 obtain ⟨y2, hy2⟩ : ∃ y2, p10 22 = y2 := ⟨_, rfl⟩
 rw [hy2] at c2
 rw [hy2] at m2
 obtain ⟨x2, hx2⟩ : ∃ x2, fmul x1 y2 = x2 := ⟨_, rfl⟩
 rw [hx2] at m2
 have hop2 : ∀ t w, (binOp .mul t (.float .f64 x1) (.float .f64 y2)).run Tryz.prog w = .ok (.float .f64 x2) w := fun t w => run_float_arith w .mul t .f64 x1 y2 x2 m2
 have hgt := ha
 unfold fgt at hgt
 have hlt := hb
 unfold flt at hlt
 have HA := Lib.hid (And.intro ha hb)
 have HH := Lib.hid (And.intro hy1 (And.intro hx1 hy2))
 have HX := Lib.hid hx2
 clear ha hb hx2 hy1 hx1 hnn1 hnn hy2 ct hnn2 m2 m1
 go_enter Tryz.func144, Tryz.ntmps144
 go_wp2_with (first | rw [hf0] | (rw [hun]; go_simp) | (simp only [hop1]; done) | simp only [hop1] | simp only [hop2] | rw [hgt] | rw [hlt])
 go_returns
 refine ⟨rfl, ?_⟩
 unfold exactN
 rw [if_neg HB.out.1, if_neg (by omega), if_pos (by omega), HB.out.2]
 simp only [if_pos h22]
 rw [HH.out.1, HH.out.2.1, HA.out.1, HA.out.2]
 rw [if_neg (by decide), show ((22 : Int).toNat) = 22 from rfl, HH.out.2.2, HX.out]; rfl
theorem exact_pos_quo (m : Nat) (e : Int) (w : World) (hw : Exa w) (hm : m < 18446744073709551616) (h1 : -100000 <= e) (h2 : e <= 100000) (hbig : (m : Int) < 4503599627370496) (h0 : e < 0) (h22 : -22 <= e) :
  Calls Tryz.prog 144 #[.int .u64 m, .int .i64 e, .bool false] w (ExactPost m e false w) := by
 obtain ⟨cb, g, oo, c, cs, ct⟩ := hw
 have hz : ((m : Int) / 4503599627370496 != 0) = false := by rw [bne_eq_false_iff_eq]; omega
 obtain ⟨f, hf⟩ : ∃ f, floatOfInt FloatKind.f64 (m : Int) = f := ⟨_, rfl⟩
 have hF : exactF m false = f := by unfold exactF; rw [if_neg (by decide), hf]
 have hnn := exactF_nn m false
 rw [hF] at hnn
 have hmb : ¬ 4503599627370496 <= m := by omega
 have HB := Lib.hid (And.intro hmb hF)
 clear hmb hF
 have h0b : ((e : Int) == 0) = false := by rw [beq_eq_false_iff_ne]; omega
 have h0c : decide (0 < e) = false := decide_eq_false (by omega)
 have c2 := ct (-e).toNat (by omega)
 obtain ⟨m2, hnn2⟩ := fquo_some f (-e).toNat hnn (by omega)
 obtain ⟨y2, hy2⟩ : ∃ y2, p10 (-e).toNat = y2 := ⟨_, rfl⟩
 rw [hy2] at c2 m2
 obtain ⟨x2, hx2⟩ : ∃ x2, fquo f y2 = x2 := ⟨_, rfl⟩
 rw [hx2] at m2
 have hop2 : ∀ t w, (binOp .quo t (.float .f64 f) (.float .f64 y2)).run Tryz.prog w = .ok (.float .f64 x2) w := fun t w => run_float_arith w .quo t .f64 f y2 x2 m2
 have HH := Lib.hid hy2
 have HX := Lib.hid hx2
 clear hx2 hnn hy2 ct hnn2 m2
 go_enter Tryz.func144, Tryz.ntmps144
 go_wp2_with (first | rw [hf] | simp only [hop2] | rw [h0c])
 go_returns
 refine ⟨rfl, ?_⟩
 unfold exactN
 rw [if_neg HB.out.1, if_neg (by omega), if_neg (by omega), if_pos (by omega), HB.out.2, HH.out, HX.out]; rfl
theorem exact_pos_up (m : Nat) (e : Int) (w : World) (hw : Exa w) (hm : m < 18446744073709551616) (h1 : -100000 <= e) (h2 : e <= 100000) (hbig : (m : Int) < 4503599627370496) (h0 : 37 < e) :
  Calls Tryz.prog 144 #[.int .u64 m, .int .i64 e, .bool false] w (ExactPost m e false w) := by
 obtain ⟨cb, g, oo, c, cs, ct⟩ := hw
 have hz : ((m : Int) / 4503599627370496 != 0) = false := by rw [bne_eq_false_iff_eq]; omega
 obtain ⟨f, hf⟩ : ∃ f, floatOfInt FloatKind.f64 (m : Int) = f := ⟨_, rfl⟩
 have hF : exactF m false = f := by unfold exactF; rw [if_neg (by decide), hf]
 have hnn := exactF_nn m false
 rw [hF] at hnn
 have hmb : ¬ 4503599627370496 <= m := by omega
 have HB := Lib.hid (And.intro hmb hF)
 clear hmb hF
 have h0b : ((e : Int) == 0) = false := by rw [beq_eq_false_iff_ne]; omega
 have h0c : decide (0 < e) = true := decide_eq_true (by omega)
 have h0d : decide (e <= 37) = false := decide_eq_false (by omega)
 have h0e : decide (e < 0) = false := decide_eq_false (by omega)
 clear ct hnn
 go_enter Tryz.func144, Tryz.ntmps144
 go_wp2_with (first | rw [hf] | rw [h0c] | rw [h0d] | rw [h0e])
 go_returns
 refine ⟨rfl, ?_⟩
 unfold exactN
 rw [if_neg HB.out.1, if_neg (by omega), if_neg (by omega), if_neg (by omega)]; exact ⟨_, rfl⟩
theorem exact_pos_down (m : Nat) (e : Int) (w : World) (hw : Exa w) (hm : m < 18446744073709551616) (h1 : -100000 <= e) (h2 : e <= 100000) (hbig : (m : Int) < 4503599627370496) (h0 : e < -22) :
  Calls Tryz.prog 144 #[.int .u64 m, .int .i64 e, .bool false] w (ExactPost m e false w) := by
 obtain ⟨cb, g, oo, c, cs, ct⟩ := hw
 have hz : ((m : Int) / 4503599627370496 != 0) = false := by rw [bne_eq_false_iff_eq]; omega
 obtain ⟨f, hf⟩ : ∃ f, floatOfInt FloatKind.f64 (m : Int) = f := ⟨_, rfl⟩
 have hF : exactF m false = f := by unfold exactF; rw [if_neg (by decide), hf]
 have hnn := exactF_nn m false
 rw [hF] at hnn
 have hmb : ¬ 4503599627370496 <= m := by omega
 have HB := Lib.hid (And.intro hmb hF)
 clear hmb hF
 have h0b : ((e : Int) == 0) = false := by rw [beq_eq_false_iff_ne]; omega
 have h0c : decide (0 < e) = false := decide_eq_false (by omega)
 have h0d : decide (e < 0) = true := decide_eq_true (by omega)
 have h0e : decide (-22 <= e) = false := decide_eq_false (by omega)
 clear ct hnn
 go_enter Tryz.func144, Tryz.ntmps144
 go_wp2_with (first | rw [hf] | rw [h0c] | rw [h0d] | rw [h0e])
 go_returns
 refine ⟨rfl, ?_⟩
 unfold exactN
 rw [if_neg HB.out.1, if_neg (by omega), if_neg (by omega), if_neg (by omega)]; exact ⟨_, rfl⟩
theorem exact_neg_quo (m : Nat) (e : Int) (w : World) (hw : Exa w) (hm : m < 18446744073709551616) (h1 : -100000 <= e) (h2 : e <= 100000) (hbig : (m : Int) < 4503599627370496) (h0 : e < 0) (h22 : -22 <= e) :
  Calls Tryz.prog 144 #[.int .u64 m, .int .i64 e, .bool true] w (ExactPost m e true w) := by
 obtain ⟨cb, g, oo, c, cs, ct⟩ := hw
 have hz : ((m : Int) / 4503599627370496 != 0) = false := by rw [bne_eq_false_iff_eq]; omega
 obtain ⟨f0, hf0⟩ : ∃ f0, floatOfInt FloatKind.f64 (m : Int) = f0 := ⟨_, rfl⟩
 obtain ⟨f, hf⟩ : ∃ f, Op.negFloat .f64 f0 = f := ⟨_, rfl⟩
 have hun := fun w => run_neg f0 w
 rw [hf] at hun
 have hF : exactF m true = f := by unfold exactF; rw [if_pos rfl, hf0, hf]
 have hnn := exactF_nn m true
 rw [hF] at hnn
 have hmb : ¬ 4503599627370496 <= m := by omega
 have HB := Lib.hid (And.intro hmb hF)
 clear hmb hF
 have h0b : ((e : Int) == 0) = false := by rw [beq_eq_false_iff_ne]; omega
 have h0c : decide (0 < e) = false := decide_eq_false (by omega)
 have c2 := ct (-e).toNat (by omega)
 obtain ⟨m2, hnn2⟩ := fquo_some f (-e).toNat hnn (by omega)
 obtain ⟨y2, hy2⟩ : ∃ y2, p10 (-e).toNat = y2 := ⟨_, rfl⟩
 rw [hy2] at c2 m2
 obtain ⟨x2, hx2⟩ : ∃ x2, fquo f y2 = x2 := ⟨_, rfl⟩
 rw [hx2] at m2
 have hop2 : ∀ t w, (binOp .quo t (.float .f64 f) (.float .f64 y2)).run Tryz.prog w = .ok (.float .f64 x2) w := fun t w => run_float_arith w .quo t .f64 f y2 x2 m2
 have HH := Lib.hid hy2
 have HX := Lib.hid hx2
 clear hx2 hnn hy2 ct hnn2 m2
 go_enter Tryz.func144, Tryz.ntmps144
 go_wp2_with (first | rw [hf0] | (rw [hun]; go_simp) | simp only [hop2] | rw [h0c])
 go_returns
 refine ⟨rfl, ?_⟩
 unfold exactN
 rw [if_neg HB.out.1, if_neg (by omega), if_neg (by omega), if_pos (by omega), HB.out.2, HH.out, HX.out]; rfl
theorem exact_neg_up (m : Nat) (e : Int) (w : World) (hw : Exa w) (hm : m < 18446744073709551616) (h1 : -100000 <= e) (h2 : e <= 100000) (hbig : (m : Int) < 4503599627370496) (h0 : 37 < e) :
  Calls Tryz.prog 144 #[.int .u64 m, .int .i64 e, .bool true] w (ExactPost m e true w) := by
 obtain ⟨cb, g, oo, c, cs, ct⟩ := hw
 have hz : ((m : Int) / 4503599627370496 != 0) = false := by rw [bne_eq_false_iff_eq]; omega
 obtain ⟨f0, hf0⟩ : ∃ f0, floatOfInt FloatKind.f64 (m : Int) = f0 := ⟨_, rfl⟩
 obtain ⟨f, hf⟩ : ∃ f, Op.negFloat .f64 f0 = f := ⟨_, rfl⟩
 have hun := fun w => run_neg f0 w
 rw [hf] at hun
 have hF : exactF m true = f := by unfold exactF; rw [if_pos rfl, hf0, hf]
 have hnn := exactF_nn m true
 rw [hF] at hnn
 have hmb : ¬ 4503599627370496 <= m := by omega
 have HB := Lib.hid (And.intro hmb hF)
 clear hmb hF
 have h0b : ((e : Int) == 0) = false := by rw [beq_eq_false_iff_ne]; omega
 have h0c : decide (0 < e) = true := decide_eq_true (by omega)
 have h0d : decide (e <= 37) = false := decide_eq_false (by omega)
 have h0e : decide (e < 0) = false := decide_eq_false (by omega)
 clear ct hnn
 go_enter Tryz.func144, Tryz.ntmps144
 go_wp2_with (first | rw [hf0] | (rw [hun]; go_simp) | rw [h0c] | rw [h0d] | rw [h0e])
 go_returns
 refine ⟨rfl, ?_⟩
 unfold exactN
 rw [if_neg HB.out.1, if_neg (by omega), if_neg (by omega), if_neg (by omega)]; exact ⟨_, rfl⟩
theorem exact_neg_down (m : Nat) (e : Int) (w : World) (hw : Exa w) (hm : m < 18446744073709551616) (h1 : -100000 <= e) (h2 : e <= 100000) (hbig : (m : Int) < 4503599627370496) (h0 : e < -22) :
  Calls Tryz.prog 144 #[.int .u64 m, .int .i64 e, .bool true] w (ExactPost m e true w) := by
 obtain ⟨cb, g, oo, c, cs, ct⟩ := hw
 have hz : ((m : Int) / 4503599627370496 != 0) = false := by rw [bne_eq_false_iff_eq]; omega
 obtain ⟨f0, hf0⟩ : ∃ f0, floatOfInt FloatKind.f64 (m : Int) = f0 := ⟨_, rfl⟩
 obtain ⟨f, hf⟩ : ∃ f, Op.negFloat .f64 f0 = f := ⟨_, rfl⟩
 have hun := fun w => run_neg f0 w
 rw [hf] at hun
 have hF : exactF m true = f := by unfold exactF; rw [if_pos rfl, hf0, hf]
 have hnn := exactF_nn m true
 rw [hF] at hnn
 have hmb : ¬ 4503599627370496 <= m := by omega
 have HB := Lib.hid (And.intro hmb hF)
 clear hmb hF
 have h0b : ((e : Int) == 0) = false := by rw [beq_eq_false_iff_ne]; omega
 have h0c : decide (0 < e) = false := decide_eq_false (by omega)
 have h0d : decide (e < 0) = true := decide_eq_true (by omega)
 have h0e : decide (-22 <= e) = false := decide_eq_false (by omega)
 clear ct hnn
 go_enter Tryz.func144, Tryz.ntmps144
 go_wp2_with (first | rw [hf0] | (rw [hun]; go_simp) | rw [h0c] | rw [h0d] | rw [h0e])
 go_returns
 refine ⟨rfl, ?_⟩
 unfold exactN
 rw [if_neg HB.out.1, if_neg (by omega), if_neg (by omega), if_neg (by omega)]; exact ⟨_, rfl⟩
theorem exact_any (m : Nat) (e : Int) (neg : Bool) (w : World) (hw : Exa w) (hm : m < 18446744073709551616) (h1 : -100000 <= e) (h2 : e <= 100000) :
  Calls Tryz.prog 144 #[.int .u64 m, .int .i64 e, .bool neg] w (ExactPost m e neg w) := by
 by_cases hbig : (m : Int) < 4503599627370496
 ·by_cases h0 : e = 0
  ·cases neg
   ·exact exact_zero_pos m e w hw hm h1 h2 hbig h0
   ·exact exact_zero_neg m e w hw hm h1 h2 hbig h0
  ·by_cases hp : 0 < e
   ·by_cases h37 : e <= 37
    ·by_cases h22 : 22 < e
     ·cases neg
      ·cases ha : fgt (fmul (exactF m false) (p10 (e - 22).toNat)) 4831355200913801216
       ·cases hb : flt (fmul (exactF m false) (p10 (e - 22).toNat)) 14054727237768577024
        ·exact exact_pos_over_go m e w hw hm h1 h2 hbig hp h37 h22 ha hb
        ·exact exact_pos_over_stop2 m e w hw hm h1 h2 hbig hp h37 h22 ha hb
       ·exact exact_pos_over_stop m e w hw hm h1 h2 hbig hp h37 h22 ha
      ·cases ha : fgt (fmul (exactF m true) (p10 (e - 22).toNat)) 4831355200913801216
       ·cases hb : flt (fmul (exactF m true) (p10 (e - 22).toNat)) 14054727237768577024
        ·exact exact_neg_over_go m e w hw hm h1 h2 hbig hp h37 h22 ha hb
        ·exact exact_neg_over_stop2 m e w hw hm h1 h2 hbig hp h37 h22 ha hb
       ·exact exact_neg_over_stop m e w hw hm h1 h2 hbig hp h37 h22 ha
     ·cases neg
      ·cases ha : fgt (exactF m false) 4831355200913801216
       ·cases hb : flt (exactF m false) 14054727237768577024
        ·exact exact_pos_under_go m e w hw hm h1 h2 hbig hp h37 (by omega) ha hb
        ·exact exact_pos_under_stop2 m e w hw hm h1 h2 hbig hp h37 (by omega) ha hb
       ·exact exact_pos_under_stop m e w hw hm h1 h2 hbig hp h37 (by omega) ha
      ·cases ha : fgt (exactF m true) 4831355200913801216
       ·cases hb : flt (exactF m true) 14054727237768577024
        ·exact exact_neg_under_go m e w hw hm h1 h2 hbig hp h37 (by omega) ha hb
        ·exact exact_neg_under_stop2 m e w hw hm h1 h2 hbig hp h37 (by omega) ha hb
       ·exact exact_neg_under_stop m e w hw hm h1 h2 hbig hp h37 (by omega) ha
    ·cases neg
     ·exact exact_pos_up m e w hw hm h1 h2 hbig (by omega)
     ·exact exact_neg_up m e w hw hm h1 h2 hbig (by omega)
   ·by_cases h22 : -22 <= e
    ·cases neg
     ·exact exact_pos_quo m e w hw hm h1 h2 hbig (by omega) h22
     ·exact exact_neg_quo m e w hw hm h1 h2 hbig (by omega) h22
    ·cases neg
     ·exact exact_pos_down m e w hw hm h1 h2 hbig (by omega)
     ·exact exact_neg_down m e w hw hm h1 h2 hbig (by omega)
 ·exact exact_big m e neg w hw hm (by omega)
end Go.Proofs.YtdfolbmoohcblaaGreatDoor
