/-
For FnReadAgain, part 25: W9 W9a.
-/
import Derived.Test.YtdfolbmoohcblaaGreatDoorM18
import Derived.Test.YtdfolbmoohcblaaGreatDoorM19
import Derived.Test.YtdfolbmoohcblaaGreatDoorM24
import Derived.Deep.QuietTactic
import Derived.BigQuiet
set_option linter.all false
namespace Go.Proofs.YtdfolbmoohcblaaGreatDoor
set_option maxHeartbeats 8000000
set_option maxRecDepth 100000
open Go.RowKit
def VN (x : Nat) : Prop := Valid x \/ x = nanW
theorem VN.lt {x : Nat} (h : VN x) : x < 18446744073709551616 := by
 rcases h with h | h
 ·exact h.2
 ·rw [h]; decide
theorem runR_inv (hex : Bool) : ∀ (l : List UInt8) (st : RS) (pos : Nat), InvR hex pos st -> InvR hex (pos + (runR hex st l).2) (runR hex st l).1 /\ (runR hex st l).2 <= l.length
 | [], st, pos, h => ⟨by simpa [runR] using h, by simp [runR]⟩
 | c :: r, st, pos, h => by
  unfold runR
  cases hs : stepR hex st c with
  | none => exact ⟨by simpa using h, by simp⟩
  | some s' =>
   have ih := runR_inv hex r s' (pos + 1) (h.step hs)
   refine ⟨?_, by simp only [List.length_cons]; omega⟩
   have := ih.1
   rwa [show pos + 1 + (runR hex s' r).2 = pos + ((runR hex s' r).2 + 1) from by omega] at this
theorem expL_inv : ∀ (l : List UInt8) (e : Nat) (us : Bool), e < 100000 -> (expL e us l).1 < 100000 /\ (expL e us l).2.2 <= l.length
 | [], e, us, h => ⟨by simpa [expL] using h, by simp [expL]⟩
 | c :: r, e, us, h => by
  unfold expL
  split
  ·have ih := expL_inv r e true h
   exact ⟨ih.1, by simp only [List.length_cons]; omega⟩
  ·split
   ·rename_i hd
    rw [isD_iff] at hd
    have ih := expL_inv r (if e < 10000 then e * 10 + (c.toNat - 48) else e) us (by split <;> omega)
    exact ⟨ih.1, by simp only [List.length_cons]; omega⟩
   ·exact ⟨h, Nat.zero_le _⟩
theorem expR_inv {hex us : Bool} {l : List UInt8} {e : Int} {us' : Bool} {n : Nat} (h : expR hex us l = some (e, us', n)) : -100000 <= e /\ e <= 100000 /\ n <= l.length := by
 unfold expR at h
 split at h
 ·split at h
  ·cases h
  ·cases h; exact ⟨by omega, by omega, Nat.zero_le _⟩
 ·rename_i c r
  by_cases hlc : lo c = (if hex = true then 112 else 101)
  ·rw [if_pos hlc] at h
   simp only [] at h
   split at h
   ·cases h
   ·rename_i d t hdt
    split at h
    ·cases h
     have hi := expL_inv (d :: t) 0 us (by omega)
     have hl : (d :: t).length <= r.length := by rw [<- hdt, List.length_drop]; omega
     have hk : (d :: t).length = r.length - (if r.head? = some 43 \/ r.head? = some 45 then 1 else 0) := by rw [<- hdt, List.length_drop]
     have hr1 : r.head? = some 43 \/ r.head? = some 45 -> 1 <= r.length := by
      intro hh
      cases r with
      | nil => simp at hh
      | cons => simp
     refine ⟨?_, ?_, ?_⟩
     ·split <;> omega
     ·split <;> omega
     ·rw [List.length_cons]
      by_cases hh : r.head? = some 43 \/ r.head? = some 45
      ·have := hr1 hh; rw [if_pos hh] at hk ⊢; omega
      ·rw [if_neg hh] at hk ⊢; omega
    ·cases h
  ·rw [if_neg hlc] at h
   split at h
   ·cases h
   ·cases h; exact ⟨by omega, by omega, Nat.zero_le _⟩
theorem sgnLen_le (l : List UInt8) : sgnLen l <= l.length := by
 unfold sgnLen
 split
 ·rename_i h
  cases l with
  | nil => simp at h
  | cons => simp
 ·exact Nat.zero_le _
theorem isHex_len {l : List UInt8} (h : isHex l = true) : 2 <= l.length := by
 unfold isHex at h
 split at h
 ·simp
 ·cases h
structure ReadBd (l : List UInt8) (r : RF) : Prop where
 n : r.n <= l.length
 m : r.m < 18446744073709551616
 dec : r.hex = false -> r.m < 10000000000000000000
 lo : -(10 * (l.length : Int) + 200000) <= r.exp
 hi : r.exp <= 10 * (l.length : Int) + 200000
theorem readN_bd {l : List UInt8} {r : RF} (h : readN l = some r) : ReadBd l r := by
 unfold readN at h
 simp only [] at h
 have h1 := sgnLen_le l
 generalize hi : sgnLen l = i at *
 generalize hh : isHex (l.drop i) = hex at *
 have hj : (if hex = true then i + 2 else i) <= l.length := by
  split
  ·rename_i hx
   have := isHex_len (l := l.drop i) (by rw [hh]; exact hx)
   rw [List.length_drop] at this; omega
  ·exact h1
 generalize (if hex = true then i + 2 else i) = j at *
 have hinv := runR_inv hex (l.drop j) RS0 j (LRp.start hex l j hj).inv
 rw [List.length_drop] at hinv
 obtain ⟨hin, hle⟩ := hinv
 generalize runR hex RS0 (l.drop j) = q at *
 obtain ⟨st, k⟩ := q
 dsimp only at *
 split at h
 ·split at h
  ·cases h
  ·rename_i e us n he
   have hx := expR_inv he
   rw [List.length_drop] at hx
   obtain ⟨x1, x2, x3⟩ := hx
   cases h
   have b1 := hin.nd
   have b2 := hin.lo
   have b3 := hin.hi
   have b4 := hin.le
   have b5 := hin.k
   have b6 := hin.m
   refine ⟨by show j + k + n <= _; omega, ?_, ?_, ?_, ?_⟩
   ·show st.m < _
    cases hex
    ·have h2 : st.m < 10 ^ st.ndm := b6
     have h3 : 10 ^ st.ndm <= 10 ^ 19 := Nat.pow_le_pow_right (by decide) b5
     omega
    ·have h2 : st.m < 16 ^ st.ndm := b6
     have h3 : 16 ^ st.ndm <= 16 ^ 16 := Nat.pow_le_pow_right (by decide) b5
     omega
   ·intro hf
    dsimp only at hf
    subst hf
    have h2 : st.m < 10 ^ st.ndm := b6
    have h3 : 10 ^ st.ndm <= 10 ^ 19 := Nat.pow_le_pow_right (by decide) b5
    show st.m < _
    omega
   ·dsimp only
    have hm : st.ndm <= 19 := Nat.le_trans b5 (by unfold mxm; split <;> omega)
    split
    ·omega
    ·cases st.dot <;> cases hex <;> simp <;> omega
   ·dsimp only
    have hm : st.ndm <= 19 := Nat.le_trans b5 (by unfold mxm; split <;> omega)
    split
    ·omega
    ·cases st.dot <;> cases hex <;> simp <;> omega
 ·cases h
theorem word_lt (neg : Bool) (r : Nat) (h : r <= Ieee.double.infRung) : Ieee.double.word neg r < 18446744073709551616 := by
 have hi : Ieee.double.infRung = 9218868437227405312 := by decide
 have hs : Ieee.double.signWeight = 9223372036854775808 := by decide
 unfold Ieee.Format.word
 rw [hs]; split <;> omega
theorem nearest_lt (neg : Bool) (mag : Nat) (place : Int) : Ieee.double.nearest neg mag place < 18446744073709551616 := by
 unfold Ieee.Format.nearest
 split
 ·exact word_lt _ _ (Nat.zero_le _)
 ·exact word_lt _ _ (Nat.min_le_right _ _)
theorem fmul_lt (x i : Nat) (hx : NN x) (hi : i < 23) : fmul x (p10 i) < 18446744073709551616 := by
 obtain ⟨n, j, hr, hn⟩ := p10_num i hi
 unfold fmul floatBits
 simp only [FloatKind.format, Ieee.Format.mul, hr]
 unfold NN at hx
 cases hd : Ieee.double.read x with
 | number s m k => exact nearest_lt _ _ _
 | infinity s => simp only [Ieee.Datum.product, if_neg hn]; exact word_lt _ _ (Nat.le_refl _)
 | nan s f => rw [hd] at hx; cases hx
theorem fquo_lt (x i : Nat) (hx : NN x) (hi : i < 23) : fquo x (p10 i) < 18446744073709551616 := by
 obtain ⟨n, j, hr, hn⟩ := p10_num i hi
 unfold fquo floatBits
 simp only [FloatKind.format, Ieee.Format.div, hr]
 unfold NN at hx
 cases hd : Ieee.double.read x with
 | number s m k => simp only [Ieee.Datum.quotient, if_neg hn]; exact nearest_lt _ _ _
 | infinity s => exact word_lt _ _ (Nat.le_refl _)
 | nan s f => rw [hd] at hx; cases hx
theorem exactF_lt (m : Nat) (neg : Bool) : exactF m neg < 18446744073709551616 := by
 unfold exactF
 rw [ofInt_nearest]
 have hlt := nearest_lt63 m 0
 generalize Ieee.double.nearest false m 0 = y at hlt
 cases neg
 ·rw [if_neg (by decide)]; omega
 ·rw [if_pos rfl, neg_word y hlt]
  have hs : Ieee.double.signWeight = 9223372036854775808 := by decide
  unfold Ieee.Format.word
  rw [hs]; simp only [if_true]; omega
theorem exactN_valid (m : Nat) (e : Int) (neg : Bool) (r : Nat) (h : exactN m e neg = some r) : Valid r := by
 refine ⟨exactN_nn m e neg r h, ?_⟩
 unfold exactN at h
 have hf := exactF_nn m neg
 have hl := exactF_lt m neg
 split at h
 ·cases h
 ·split at h
  ·cases h; exact hl
  ·split at h
   ·by_cases h22 : 22 < e
    ·simp only [if_pos h22] at h
     split at h
     ·cases h
     ·cases h
      exact fmul_lt _ _ (fmul_some _ _ hf (by omega)).2 (by omega)
    ·simp only [if_neg h22] at h
     split at h
     ·cases h
     ·cases h
      exact fmul_lt _ _ hf (by omega)
   ·split at h
    ·cases h; exact fquo_lt _ _ hf (by omega)
    ·cases h
theorem infW_valid (neg : Bool) : Valid (infW neg) := by
 cases neg
 ·exact valid_sg false 9218868437227405312 (Nat.le_refl _)
 ·exact valid_sg true 9218868437227405312 (Nat.le_refl _)
theorem specialN_vn {l : List UInt8} {x n : Nat} (h : specialN l = some (x, n)) : VN x := by
 unfold specialN at h
 split at h
 ·cases h
 ·split at h
  ·split at h
   ·cases h; exact .inl (infW_valid _)
   ·cases h
  ·split at h
   ·split at h
    ·cases h; exact .inl (infW_valid _)
    ·cases h
   ·split at h
    ·split at h
     ·cases h; exact .inr rfl
     ·cases h
    ·cases h
def packN (neg : Bool) (q : Nat) (e : Int) : Option Nat :=
 if 2 ^ 52 <= q /\ q < 2 ^ 53 then (if 972 <= e then none else some (sg neg + (q - 2 ^ 52) + (1075 + e).toNat * 2 ^ 52)) else some (sg neg + q)
theorem packN_valid {neg : Bool} {q : Nat} {e : Int} {x : Nat} (hq : q <= 9007199254740992) (h : packN neg q e = some x) : Valid x := by
 unfold packN at h
 split at h
 ·split at h
  ·cases h
  ·cases h
   rw [Nat.add_assoc]
   refine valid_sg neg _ ?_
   have : (1075 + e).toNat <= 2046 := by omega
   have h2 : (1075 + e).toNat * 2 ^ 52 <= 2046 * 2 ^ 52 := Nat.mul_le_mul_right _ this
   omega
 ·cases h
  exact valid_sg neg _ (by omega)
def atofP (l : List UInt8) : Option (Nat × Nat) :=
 match specialN l with
 | some r => some r
 | none => match readN l with
  | none => none
  | some r =>
   if r.us \/ r.hex \/ r.tr then none
   else if r.m = 0 then some (sg r.neg, r.n)
   else if r.exp < -345 \/ 310 < r.exp then none
   else match exactN r.m r.exp r.neg with
    | some x => some (x, r.n)
    | none => match parseN r.m r.exp with
     | none => none
     | some (q, e) => match packN r.neg q e with
      | none => none
      | some x => some (x, r.n)
def AtofGood (l : List UInt8) (e' : Ending) : Prop := ∃ x n : Nat, VN x /\ n <= l.length /\ e' = .returned (.tuple #[.float .f64 x, .int .i64 n, .nilIface]) /\ (∀ r, atofP l = some r -> r = (x, n))
def AtofBad (l : List UInt8) (e' : Ending) : Prop := atofP l = none /\ ∃ (x : Nat) (n : Int) (v : Int), (v = 1 \/ v = 2) /\ e' = .returned (.tuple #[.float .f64 x, .int .i64 n, .iface 150 (.int .i64 v)])
def AtofPost (l : List UInt8) (w : World) (e' : Ending) (w' : World) : Prop := Below w.heap.size w w' /\ (AtofGood l e' \/ AtofBad l e')
theorem cpl_len : ∀ (l t : List UInt8), cpl l t <= l.length
 | [], _ => by simp [cpl]
 | a :: l, [] => by simp [cpl]
 | a :: l, b :: p => by
  unfold cpl
  have := cpl_len l p
  split
  ·rw [List.length_cons]; omega
  ·exact Nat.zero_le _
theorem spn_len (l : List UInt8) : spn l <= l.length := by
 have := cpl_len l txInf
 unfold spn; split <;> omega
theorem specialN_n {l : List UInt8} {x n : Nat} (h : specialN l = some (x, n)) : n <= l.length := by
 unfold specialN at h
 split at h
 ·cases h
 ·rename_i c r
  have h1 := spn_len r
  have h2 := spn_len (c :: r)
  have h3 := cpl_len (c :: r) txNan
  rw [List.length_cons] at h2 h3 ⊢
  split at h
  ·split at h
   ·cases h; omega
   ·cases h
  ·split at h
   ·split at h
    ·cases h; omega
    ·cases h
   ·split at h
    ·split at h
     ·cases h; omega
     ·cases h
    ·cases h
theorem parse_two {neg : Bool} {d : Nat} {p : Int} {w w' : World} {e' : Ending} (h : ParsePost neg d p w e' w') :
  Below w.heap.size w w' /\ ((∃ x, Valid x /\ e' = .returned (.tuple #[.float .f64 x, .nilIface]) /\ ∀ q e, parseN d p = some (q, e) -> packN neg q e = some x) \/
   (∃ x, e' = .returned (.tuple #[.float .f64 x, .iface 150 (.int .i64 1)]) /\ ∃ q e, parseN d p = some (q, e) /\ packN neg q e = none)) := by
 obtain ⟨hb, h⟩ := h
 refine ⟨hb, ?_⟩
 cases hp : parseN d p with
 | none =>
  rw [hp] at h
  exact .inl ⟨sg neg, valid_sg neg 0 (by omega), h, fun q e he => by cases he⟩
 | some r =>
  obtain ⟨q, e⟩ := r
  rw [hp] at h
  obtain ⟨hq, he, -, h⟩ := h
  by_cases hc : 2 ^ 52 <= q /\ q < 2 ^ 53
  ·rw [if_pos hc] at h
   by_cases h9 : 972 <= e
   ·rw [if_pos h9] at h
    obtain ⟨x, hx⟩ := h
    exact .inr ⟨x, hx, q, e, rfl, by unfold packN; rw [if_pos hc, if_pos h9]⟩
   ·rw [if_neg h9] at h
    have hpk : packN neg q e = some (sg neg + (q - 2 ^ 52) + (1075 + e).toNat * 2 ^ 52) := by unfold packN; rw [if_pos hc, if_neg h9]
    exact .inl ⟨_, packN_valid hq hpk, h, fun q' e' he' => by cases he'; exact hpk⟩
  ·rw [if_neg hc] at h
   have hpk : packN neg q e = some (sg neg + q) := by unfold packN; rw [if_neg hc]
   exact .inl ⟨_, packN_valid hq hpk, h, fun q' e' he' => by cases he'; exact hpk⟩
def feq (x y : Nat) : Bool := FloatKind.f64.format.order x y == some .eq
theorem run_feq (t : TypeId) (x y : Nat) (w : World) : (binOp .eql t (.float .f64 x) (.float .f64 y)).run Tryz.prog w = .ok (.bool (feq x y)) w := rfl
def PowT (w : World) : Prop := ∃ h o c, w.cell? ⟨18, 0, none⟩ = some (.slice (some ⟨h, o, none⟩) 9 c) /\ ∀ i, i < 9 -> w.cell? ⟨h, o + i, none⟩ = some (.int .i64 (ptab i : Nat))
theorem PowT.below {w w' : World} (h : PowT w) (hb : Below w.heap.size w w') : PowT w' := by
 obtain ⟨g, o, c, h1, h2⟩ := h
 exact ⟨g, o, c, cell_later hb h1, fun i a => cell_later hb (h2 i a)⟩
structure PE (w : World) : Prop where
 inf : Inf64 w
 pow : Pow w
 exa : Exa w
 opt : w.cell? ⟨9, 0, none⟩ = some (.bool true)
 cheat : Cheat w
 tab : PowT w
theorem PE.below {w w' : World} (h : PE w) (hb : Below w.heap.size w w') : PE w' :=
 ⟨h.inf.below hb, h.pow.below hb, h.exa.below hb, cell_later hb h.opt, h.cheat.below hb, h.tab.below hb⟩
theorem PE.fb {w w' : World} (h : PE w) (hb : Below w.heap.size w w') : FbEnv w' w.heap.size := by
 have lt : ∀ {b o : Nat} {v : Value}, w.cell? ⟨b, o, none⟩ = some v -> b < w.heap.size := fun h => World.block_lt_of_cell? _ _ h
 obtain ⟨g1, o1, k1, d1, e1⟩ := h.cheat
 obtain ⟨g2, o2, k2, d2, e2⟩ := h.tab
 refine ⟨cell_later hb h.inf.c0, cell_later hb h.inf.c1, cell_later hb h.inf.c2, lt d2, ⟨g1, o1, k1, lt (e1 1 (by omega) (by omega)).1, cell_later hb d1, fun k a b => ⟨cell_later hb (e1 k a b).1, cell_later hb (e1 k a b).2⟩⟩, ⟨g2, o2, k2, lt (e2 0 (by omega)), cell_later hb d2, fun i hi => cell_later hb (e2 i hi)⟩⟩
theorem atof_special (s : ByteArray) (w : World) (hs : s.size <= 1099511627776) (x n : Nat) (h : specialN (ls s) = some (x, n)) : Calls Tryz.prog 107 #[.string s] w (AtofPost (ls s) w) := by
 have hsp := special_any s w hs
 unfold SpecialPost at hsp
 rw [h] at hsp
 have HS := Lib.hid (And.intro hsp h)
 clear hsp h
 go_enter Tryz.func107, Tryz.ntmps107
 go_wp2_with fail
 refine HS.out.1.mono ?_
 rintro e w' ⟨rfl, rfl⟩
 go_wp2_with fail
 go_returns
 exact ⟨Below.refl _ _, .inl ⟨x, n, specialN_vn HS.out.2, specialN_n HS.out.2, rfl, fun r hr => by unfold atofP at hr; rw [HS.out.2] at hr; cases hr; rfl⟩⟩
theorem atof_fail (s : ByteArray) (w : World) (hs : s.size <= 1099511627776) (h : specialN (ls s) = none) (hr : readN (ls s) = none) : Calls Tryz.prog 107 #[.string s] w (AtofPost (ls s) w) := by
 have hsp := special_any s w hs
 unfold SpecialPost at hsp
 rw [h] at hsp
 have hrd := readFloat_any s w hs
 unfold ReadPost at hrd
 rw [hr] at hrd
 have HS := Lib.hid (And.intro hsp (And.intro h (And.intro hr hrd)))
 clear hsp h hr hrd
 go_enter Tryz.func107, Tryz.ntmps107
 go_wp2_with fail
 refine HS.out.1.mono ?_
 rintro e w' ⟨rfl, rfl⟩
 go_wp2_with fail
 refine HS.out.2.2.2.mono ?_
 rintro e w' ⟨hb, m, x, a, b, c, i, rfl⟩
 have HB := Lib.hid hb
 clear hb
 go_wp2_with fail
 go_returns
 exact ⟨HB.out, .inr ⟨by unfold atofP; rw [HS.out.2.1, HS.out.2.2.1], 0, i, 2, .inr rfl, rfl⟩⟩
def isU0 : Option Value -> Bool
 | some (.int .u8 n) => n == 0
 | _ => false
def isI0 : Option Value -> Bool
 | some (.int .i64 n) => n == 0
 | _ => false
def isF : Option Value -> Bool
 | some (.bool b) => !b
 | _ => false
theorem isU0_eq {o : Option Value} (h : isU0 o = true) : o = some (.int .u8 0) := by
 unfold isU0 at h
 split at h
 ·rw [beq_iff_eq] at h; rw [h]
 ·cases h
theorem isI0_eq {o : Option Value} (h : isI0 o = true) : o = some (.int .i64 0) := by
 unfold isI0 at h
 split at h
 ·rw [beq_iff_eq] at h; rw [h]
 ·cases h
theorem isF_eq {o : Option Value} (h : isF o = true) : o = some (.bool false) := by
 unfold isF at h
 split at h
 ·rename_i b; cases b
  ·rfl
  ·cases h
 ·cases h
theorem z179 : (List.range 800).all (fun i => isU0 Tryz.zeroCells179[i]?) = true /\ isI0 Tryz.zeroCells179[800]? = true /\ isI0 Tryz.zeroCells179[801]? = true /\ isF Tryz.zeroCells179[802]? = true /\ isF Tryz.zeroCells179[803]? = true := by
 refine ⟨?_, ?_, ?_, ?_, ?_⟩ <;> decide +kernel
theorem dec0 (w : World) : Dec (w.alloc (Obj.cells Tryz.zeroCells179 179)) w.heap.size (fun _ => 0) 0 0 false false := by
 obtain ⟨h1, h2, h3, h4, h5⟩ := z179
 refine ⟨⟨Tryz.zeroCells179, heap_alloc_new w _, fun i hi => isU0_eq (List.all_eq_true.1 h1 i (List.mem_range.2 hi)), isI0_eq h2, isI0_eq h3, isF_eq h4, isF_eq h5⟩, fun _ => by omega⟩
structure RW (s : ByteArray) (w w1 : World) : Prop where
 b : Below w.heap.size w w1
 pe : PE w1
theorem sg0 : ((sg false : Nat) : Int) = 0 := rfl
theorem sg1 : ((sg true : Nat) : Int) = 9223372036854775808 := rfl
theorem bor (a b c : Nat) (ha : a < 18446744073709551616) (hb : b < 18446744073709551616) (h : a ||| b = c) : bits .or .u64 (a : Int) (b : Int) = (c : Int) := by rw [bits_or_u64 a b ha hb, h]
theorem atofP_eq {l : List UInt8} {m : Nat} {exp : Int} {neg tr : Bool} {n : Nat} {us : Bool} (h : specialN l = none) (hr : readN l = some ⟨m, exp, neg, tr, false, n, us⟩) :
  atofP l = if us \/ tr then none else if m = 0 then some (sg neg, n) else if exp < -345 \/ 310 < exp then none else match exactN m exp neg with
    | some x => some (x, n)
    | none => match parseN m exp with
     | none => none
     | some (q, e) => match packN neg q e with
      | none => none
      | some x => some (x, n) := by
 unfold atofP
 rw [h, hr]
 simp only [Bool.false_eq_true, false_or]
 all_goals rfl
theorem good_zero {l : List UInt8} {exp : Int} {neg tr : Bool} {n : Nat} {us : Bool} {x : Nat} (h : specialN l = none) (hr : readN l = some ⟨0, exp, neg, tr, false, n, us⟩) (hx : x = sg neg) : AtofGood l (.returned (.tuple #[.float .f64 x, .int .i64 n, .nilIface])) := by
 refine ⟨x, n, .inl (by rw [hx]; exact valid_sg neg 0 (by omega)), (readN_bd hr).n, rfl, fun r he => ?_⟩
 rw [atofP_eq h hr] at he
 split at he
 ·cases he
 ·rw [if_pos rfl] at he; cases he; rw [hx]
theorem none_range {l : List UInt8} {m : Nat} {exp : Int} {neg tr : Bool} {n : Nat} {us : Bool} (h : specialN l = none) (hr : readN l = some ⟨m, exp, neg, tr, false, n, us⟩) (hm : m ≠ 0) (he : exp < -345 \/ 310 < exp) : atofP l = none := by
 rw [atofP_eq h hr, if_neg hm, if_pos he]; split <;> rfl
theorem none_tr {l : List UInt8} {m : Nat} {exp : Int} {neg : Bool} {n : Nat} {us : Bool} (h : specialN l = none) (hr : readN l = some ⟨m, exp, neg, true, false, n, us⟩) : atofP l = none := by
 rw [atofP_eq h hr, if_pos (.inr rfl)]
theorem good_none {l : List UInt8} {x n : Nat} (h : atofP l = none) (hx : Valid x) (hn : n <= l.length) : AtofGood l (.returned (.tuple #[.float .f64 x, .int .i64 n, .nilIface])) :=
 ⟨x, n, .inl hx, hn, rfl, fun r he => by rw [h] at he; cases he⟩
theorem good_exact {l : List UInt8} {m : Nat} {exp : Int} {neg tr : Bool} {n : Nat} {us : Bool} {x : Nat} (h : specialN l = none) (hr : readN l = some ⟨m, exp, neg, tr, false, n, us⟩) (hm : m ≠ 0) (he : ¬ (exp < -345 \/ 310 < exp)) (hx : exactN m exp neg = some x) : AtofGood l (.returned (.tuple #[.float .f64 x, .int .i64 n, .nilIface])) := by
 refine ⟨x, n, .inl (exactN_valid _ _ _ _ hx), (readN_bd hr).n, rfl, fun r h2 => ?_⟩
 rw [atofP_eq h hr, if_neg hm, if_neg he, hx] at h2
 split at h2
 ·cases h2
 ·cases h2; rfl
theorem good_parse {l : List UInt8} {m : Nat} {exp : Int} {neg tr : Bool} {n : Nat} {us : Bool} {x : Nat} (h : specialN l = none) (hr : readN l = some ⟨m, exp, neg, tr, false, n, us⟩) (hm : m ≠ 0) (he : ¬ (exp < -345 \/ 310 < exp)) (hx : tr = false -> exactN m exp neg = none) (hv : Valid x) (hp : ∀ q e, parseN m exp = some (q, e) -> packN neg q e = some x) : AtofGood l (.returned (.tuple #[.float .f64 x, .int .i64 n, .nilIface])) := by
 refine ⟨x, n, .inl hv, (readN_bd hr).n, rfl, fun r h2 => ?_⟩
 rw [atofP_eq h hr, if_neg hm, if_neg he] at h2
 split at h2
 ·cases h2
 ·rename_i hut
  rw [hx (by cases tr <;> simp_all)] at h2
  simp only [] at h2
  cases hq : parseN m exp with
  | none => rw [hq] at h2; cases h2
  | some qe =>
   obtain ⟨q, e⟩ := qe
   rw [hq] at h2
   simp only [hp q e hq] at h2
   cases h2; rfl
theorem none_parse {l : List UInt8} {m : Nat} {exp : Int} {neg tr : Bool} {n : Nat} {us : Bool} (h : specialN l = none) (hr : readN l = some ⟨m, exp, neg, tr, false, n, us⟩) (hm : m ≠ 0) (he : ¬ (exp < -345 \/ 310 < exp)) (hx : tr = false -> exactN m exp neg = none) (hp : ∃ q e, parseN m exp = some (q, e) /\ packN neg q e = none) : atofP l = none := by
 obtain ⟨q, e, h1, h2⟩ := hp
 rw [atofP_eq h hr, if_neg hm, if_neg he]
 split
 ·rfl
 ·rename_i hut
  rw [hx (by cases tr <;> simp_all), h1]
  simp only [h2]
theorem atof_dec (s : ByteArray) (w : World) (hs : s.size <= 1099511627776) (hpe : PE w) (m : Nat) (exp : Int) (neg tr : Bool) (n : Nat) (us : Bool) (h : specialN (ls s) = none) (hr : readN (ls s) = some ⟨m, exp, neg, tr, false, n, us⟩) : Calls Tryz.prog 107 #[.string s] w (AtofPost (ls s) w) := by
 have hsp := special_any s w hs
 unfold SpecialPost at hsp
 rw [h] at hsp
 have hrd := readFloat_any s w hs
 unfold ReadPost at hrd
 rw [hr] at hrd
 obtain ⟨bn, bm, bdec, blo, bhi⟩ := readN_bd hr
 dsimp only at bn bm bdec blo bhi hrd
 have bm10 := bdec rfl
 rw [ls_length] at bn blo bhi
 have HS := Lib.hid (And.intro hsp (And.intro h (And.intro hr (And.intro hrd hpe))))
 have hfb := fun n => run_frombits n
 obtain ⟨σ, hσ⟩ : ∃ σ, σ = sg neg := ⟨_, rfl⟩
 have hσ1 : IntKind.u64.wrap ((neg.toNat : Int) * 9223372036854775808) = (σ : Int) := by rw [hσ]; cases neg <;> decide
 have hσ2 : bits .or .u64 (σ : Int) 0 = (σ : Int) := by rw [hσ]; cases neg <;> decide
 have hσ3 : bits .or .u64 (σ : Int) 9218868437227405312 = ((σ + 9218868437227405312 : Nat) : Int) := by rw [hσ]; cases neg <;> decide
 have Hσ := Lib.hid hσ
 clear hsp h hr hrd hpe bdec bm hσ
 go_enter Tryz.func107, Tryz.ntmps107
 go_wp2_with fail
 refine HS.out.1.mono ?_
 rintro e w' ⟨rfl, rfl⟩
 go_wp2_with fail
 refine HS.out.2.2.2.1.mono ?_
 rintro e w1 ⟨hb, rfl | ⟨hus, m', x, a, b, c, i, rfl⟩⟩
 ·have HW : Hid (RW s w w1) := ⟨hb, HS.out.2.2.2.2.below hb⟩
  clear hb
  have hopt := HW.out.pe.opt
  by_cases hm0 : m = 0
  ·subst hm0
   as_aux_lemma =>
    go_wp2_with (go_at_call 142; refine (bool2u_any _ _).mono ?_; rintro e w' ⟨rfl, rfl⟩)
    go_returns
    exact ⟨HW.out.b, .inl (good_zero HS.out.2.1 HS.out.2.2.1 Hσ.out)⟩
  ·have b0 : ((m : Int) == 0) = false := by rw [beq_eq_false_iff_ne]; omega
   by_cases hhi : 310 < exp
   ·as_aux_lemma =>
     go_wp2_with (go_at_call 142; refine (bool2u_any _ _).mono ?_; rintro e w' ⟨rfl, rfl⟩)
     go_returns
     exact ⟨HW.out.b, .inr ⟨none_range HS.out.2.1 HS.out.2.2.1 hm0 (.inr hhi), _, n, 1, .inl rfl, rfl⟩⟩
   ·by_cases hlo : exp < -345
    ·as_aux_lemma =>
      go_wp2_with (go_at_call 142; refine (bool2u_any _ _).mono ?_; rintro e w' ⟨rfl, rfl⟩)
      go_returns
      exact ⟨HW.out.b, .inl (good_none (none_range HS.out.2.1 HS.out.2.2.1 hm0 (.inl hlo)) (by rw [Hσ.out]; exact valid_sg neg 0 (by omega)) (by rw [ls_length]; exact bn))⟩
    ·have hin : ¬ (exp < -345 \/ 310 < exp) := by omega
     have hm0' : m ≠ 0 := hm0
     have hpf := fun d (hd0 : d ≠ 0) (hd : d < 18446744073709551616) w2 (hw : Pow w2) => parseFloat64_any neg d exp w2 hw hd0 hd (by omega) (by omega)
     rw [<- Hσ.out] at hpf
     have HPF := Lib.hid hpf
     clear hpf
     cases tr
     ·have hex := fun w2 (hw : Exa w2) => exact_any m exp neg w2 hw (by omega) (by omega) (by omega)
      unfold ExactPost at hex
      cases hxn : exactN m exp neg with
      | some x =>
       rw [hxn] at hex
       have HX := Lib.hid (And.intro hex hxn)
       clear hex hxn
       as_aux_lemma =>
        go_wp2_with (go_at_call 142; refine (bool2u_any _ _).mono ?_; rintro e w' ⟨rfl, rfl⟩)
        refine (HX.out.1 _ HW.out.pe.exa).mono ?_
        rintro e w' ⟨rfl, rfl⟩
        go_wp2_with fail
        go_returns
        exact ⟨HW.out.b, .inl (good_exact HS.out.2.1 HS.out.2.2.1 hm0' hin HX.out.2)⟩
      | none =>
       rw [hxn] at hex
       have HX := Lib.hid (And.intro hex hxn)
       clear hex hxn
       as_aux_lemma =>
        go_wp2_with (go_at_call 142; refine (bool2u_any _ _).mono ?_; rintro e w' ⟨rfl, rfl⟩)
        refine (HX.out.1 _ HW.out.pe.exa).mono ?_
        rintro e w' ⟨rfl, x, rfl⟩
        go_wp2_with fail
        refine (HPF.out m hm0' (by omega) _ HW.out.pe.pow).mono ?_
        rintro e w2 hp
        rcases parse_two hp with ⟨hb2, ⟨y, hv, rfl, hq⟩ | ⟨y, rfl, hq⟩⟩
        ·have HY := Lib.hid (And.intro hb2 (And.intro hv hq))
         clear hb2 hv hq hp
         go_wp2_with fail
         go_returns
         exact ⟨HW.out.b.trans (HY.out.1.mono HW.out.b.size), .inl (good_parse HS.out.2.1 HS.out.2.2.1 hm0' hin (fun _ => HX.out.2) HY.out.2.1 HY.out.2.2)⟩
        ·have HY := Lib.hid (And.intro hb2 hq)
         clear hb2 hq hp
         go_wp2_with fail
         go_returns
         exact ⟨HW.out.b.trans (HY.out.1.mono HW.out.b.size), .inr ⟨none_parse HS.out.2.1 HS.out.2.2.1 hm0' hin (fun _ => HX.out.2) HY.out.2, y, n, 1, .inl rfl, rfl⟩⟩
     ·have hnone := none_tr HS.out.2.1 HS.out.2.2.1
      have HN := Lib.hid hnone
      clear hnone
      go_wp2_with (go_at_call 142; refine (bool2u_any _ _).mono ?_; rintro e w' ⟨rfl, rfl⟩)
      refine (HPF.out m hm0' (by omega) _ HW.out.pe.pow).mono ?_
      rintro e w2 hp
      obtain ⟨y, ye, hb2, rfl, hye⟩ : ∃ (y : Nat) (ye : Value), Below w1.heap.size w1 w2 /\ e = .returned (.tuple #[.float .f64 y, ye]) /\ ((ye = .nilIface /\ Valid y) \/ ye = .iface 150 (.int .i64 1)) := by
       rcases parse_two hp with ⟨hb2, ⟨y, hv, rfl, hq⟩ | ⟨y, rfl, hq⟩⟩
       ·exact ⟨y, _, hb2, rfl, .inl ⟨rfl, hv⟩⟩
       ·exact ⟨y, _, hb2, rfl, .inr rfl⟩
      have hpow2 := HW.out.pe.pow.below hb2
      have HY := Lib.hid (And.intro hb2 (And.intro hye hpow2))
      clear hb2 hye hp hpow2
      go_wp2_with fail
      have em : (m : Int) + 1 = ((m + 1 : Nat) : Int) := by omega
      rw [em]
      clear em
      refine (HPF.out (m + 1) (by omega) (by omega) _ HY.out.2.2).mono ?_
      rintro e w3 hp
      obtain ⟨z, ze, hb3, rfl⟩ : ∃ (z : Nat) (ze : Value), Below w2.heap.size w2 w3 /\ e = .returned (.tuple #[.float .f64 z, ze]) := by
       rcases parse_two hp with ⟨hb2, ⟨y, hv, rfl, hq⟩ | ⟨y, rfl, hq⟩⟩
       ·exact ⟨y, _, hb2, rfl⟩
       ·exact ⟨y, _, hb2, rfl⟩
      have HZ : Hid (Below w.heap.size w w3 /\ PE w3) := by
       have h1 := HW.out.b.trans (HY.out.1.mono HW.out.b.size)
       have h2 := h1.trans (hb3.mono h1.size)
       exact ⟨h2, HS.out.2.2.2.2.below h2⟩
      clear hb3 hp
      cases hfe : (FloatKind.f64.format.order y z == some Ordering.eq)
      ·go_wp2_with fail
       clear hfe
       have hset := set_any (w3.alloc (Obj.cells Tryz.zeroCells179 179)) w3.heap.size (s.extract 0 n) false false (by rw [ByteArray.size_extract]; omega) (dec0 w3)
       refine hset.mono ?_
       clear hset
       rintro e w4 ⟨ok, D, nd, dp, neg2, tr2, rfl, hdec, hat, hz⟩
       have hb4 : Below w3.heap.size w3 w4 := ((Below.refl _ _).alloc (Nat.le_refl _) _).trans hat.1
       have HF : Hid (Below w.heap.size w w4 /\ Calls Tryz.prog 141 #[.pointer (some ⟨w3.heap.size, 0, none⟩), .pointer (some ⟨14, 0, none⟩)] w4 (FbPost w3.heap.size w4)) :=
        ⟨HZ.out.1.trans (hb4.mono HZ.out.1.size), floatBits_any w4 w3.heap.size D nd dp neg2 tr2 hdec hz (HZ.out.2.fb hb4)⟩
       clear hdec hat hz hb4
       cases ok
       ·go_wp2_with fail
        go_returns
        exact ⟨HF.out.1, .inr ⟨HN.out, 0, n, 2, .inr rfl, rfl⟩⟩
       ·go_wp2_with fail
        refine HF.out.2.mono ?_
        rintro e w5 ⟨⟨X, ov, hv, rfl⟩, hat⟩
        have HG : Hid (Below w.heap.size w w5 /\ Valid X) := ⟨HF.out.1.trans (hat.1.mono HZ.out.1.size), hv⟩
        clear hv hat
        cases ov
        ·go_wp2_with fail
         go_returns
         exact ⟨HG.out.1, .inl (good_none HN.out HG.out.2 (by rw [ls_length]; exact bn))⟩
        ·go_wp2_with fail
         go_returns
         exact ⟨HG.out.1, .inr ⟨HN.out, X, n, 1, .inl rfl, rfl⟩⟩
      ·rcases HY.out.2.1 with ⟨rfl, hv⟩ | rfl
       ·have HV := Lib.hid hv
        clear hv
        go_wp2_with fail
        clear hfe
        go_returns
        exact ⟨HZ.out.1, .inl (good_none HN.out HV.out (by rw [ls_length]; exact bn))⟩
       ·go_wp2_with fail
        clear hfe
        go_returns
        exact ⟨HZ.out.1, .inr ⟨HN.out, y, n, 1, .inl rfl, rfl⟩⟩
 ·have HB := Lib.hid (And.intro hb hus)
  clear hb hus
  as_aux_lemma =>
   go_wp2_with fail
   go_returns
   exact ⟨HB.out.1, .inr ⟨by unfold atofP; rw [HS.out.2.1, HS.out.2.2.1]; exact if_pos (.inl HB.out.2), 0, i, 2, .inr rfl, rfl⟩⟩
end Go.Proofs.YtdfolbmoohcblaaGreatDoor
