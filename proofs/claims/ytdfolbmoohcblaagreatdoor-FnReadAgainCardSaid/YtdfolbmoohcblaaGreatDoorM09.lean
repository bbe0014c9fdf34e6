/-
For FnReadAgain, part 9: W5c.
-/
import Derived.Test.YtdfolbmoohcblaaGreatDoorM08
import Derived.Deep.DeepCutAuto
import Derived.Deep.LoopGhost
import Derived.Deep.CutBlock
set_option linter.all false
namespace Go.Proofs.YtdfolbmoohcblaaGreatDoor
set_option maxRecDepth 100000
open Go.RowKit
theorem ofInt_nat8 (a : Nat) (h : a < 256) : (BitVec.ofInt 8 (a : Int)).toNat = a := by
 rw [BitVec.ofInt_natCast, BitVec.toNat_ofNat]; exact Nat.mod_eq_of_lt h
def lo (c : UInt8) : Nat := (c ||| 32).toNat
theorem lo_lt (c : UInt8) : lo c < 256 := (c ||| 32).toNat_lt
theorem bits_lo (c : UInt8) : bits .or .u8 (c.toNat : Int) 32 = (lo c : Int) := by
 have key : (BitVec.ofInt 8 (c.toNat : Int) ||| BitVec.ofInt 8 (32 : Int)).toNat = lo c := by
  rw [BitVec.toNat_or, ofInt_nat8 _ c.toNat_lt, show (32 : Int) = ((32 : Nat) : Int) from rfl, ofInt_nat8 _ (by omega)]
  unfold lo; rw [UInt8.toNat_or]; rfl
 refine (congrArg (fun n : Nat => IntKind.u8.wrap (n : Int)) key).trans ?_
 have := lo_lt c
 exact IntWalk.u8_in _ (by constructor <;> omega)
theorem lower_any (c : UInt8) (w : World) : Calls Tryz.prog 114 #[.int .u8 c.toNat] w fun e w' => e = .returned (.int .u8 (lo c)) /\ w = w' := by
 have h := Lib.hid (bits_lo c)
 go_enter Tryz.func114, Tryz.ntmps114
 go_wp2_with fail
 go_returns
 exact ⟨ret_int h.out, rfl⟩
structure RS where
 us : Bool
 m : Nat
 dot : Bool
 dig : Bool
 nd : Nat
 ndm : Nat
 dp : Int
 tr : Bool
def bas (hex : Bool) : Nat := if hex then 16 else 10
def mxm (hex : Bool) : Nat := if hex then 16 else 19
def isD (c : UInt8) : Bool := Nat.ble 48 c.toNat && Nat.ble c.toNat 57
def stepR (hex : Bool) (s : RS) (c : UInt8) : Option RS :=
 if c = 95 then some { s with us := true }
 else if c = 46 then (if s.dot then none else some { s with dot := true, dp := s.nd })
 else if isD c then
  if c = 48 /\ s.nd = 0 then some { s with dig := true, dp := s.dp - 1 }
  else if s.ndm < mxm hex then some { s with dig := true, nd := s.nd + 1, m := s.m * bas hex + (c.toNat - 48), ndm := s.ndm + 1 }
  else some { s with dig := true, nd := s.nd + 1, tr := s.tr || c != 48 }
 else if hex /\ 97 <= lo c /\ lo c <= 102 then
  if s.ndm < mxm hex then some { s with dig := true, nd := s.nd + 1, m := s.m * 16 + (lo c - 87), ndm := s.ndm + 1 }
  else some { s with dig := true, nd := s.nd + 1, tr := true }
 else none
def runR (hex : Bool) : RS -> List UInt8 -> RS × Nat
 | s, [] => (s, 0)
 | s, c :: r => match stepR hex s c with
  | none => (s, 0)
  | some s' => ((runR hex s' r).1, (runR hex s' r).2 + 1)
def expL : Nat -> Bool -> List UInt8 -> Nat × Bool × Nat
 | e, us, [] => (e, us, 0)
 | e, us, c :: r =>
  if c = 95 then ((expL e true r).1, (expL e true r).2.1, (expL e true r).2.2 + 1)
  else if isD c then
   let e' := if e < 10000 then e * 10 + (c.toNat - 48) else e
   ((expL e' us r).1, (expL e' us r).2.1, (expL e' us r).2.2 + 1)
  else (e, us, 0)
def expR (hex us : Bool) (l : List UInt8) : Option (Int × Bool × Nat) :=
 match l with
 | [] => if hex then none else some (0, us, 0)
 | c :: r =>
  if lo c = (if hex then 112 else 101) then
   let sgn : Int := if r.head? = some 45 then -1 else 1
   let k := if r.head? = some 43 \/ r.head? = some 45 then 1 else 0
   match r.drop k with
   | [] => none
   | d :: t => if isD d then some ((expL 0 us (d :: t)).1 * sgn, (expL 0 us (d :: t)).2.1, 1 + k + (expL 0 us (d :: t)).2.2) else none
  else if hex then none else some (0, us, 0)
def RS0 : RS := { us := false, m := 0, dot := false, dig := false, nd := 0, ndm := 0, dp := 0, tr := false }
structure RF where
 m : Nat
 exp : Int
 neg : Bool
 tr : Bool
 hex : Bool
 n : Nat
 us : Bool
def isHex (l : List UInt8) : Bool := match l with
 | a :: b :: _ :: _ => a == 48 && Nat.beq (lo b) 120
 | _ => false
def sgnLen (l : List UInt8) : Nat := if l.head? = some 43 \/ l.head? = some 45 then 1 else 0
def readN (l : List UInt8) : Option RF :=
 let i := sgnLen l
 let hex := isHex (l.drop i)
 let j := if hex then i + 2 else i
 let s := (runR hex RS0 (l.drop j)).1
 let k := j + (runR hex RS0 (l.drop j)).2
 if s.dig then
  let dp : Int := if s.dot then s.dp else s.nd
  match expR hex s.us (l.drop k) with
  | none => none
  | some (e, us, n) => some { m := s.m, exp := if s.m = 0 then 0 else (if hex then dp * 4 else dp) + e - (if hex then (s.ndm : Int) * 4 else s.ndm), neg := l.head? = some 45, tr := s.tr, hex := hex, n := k + n, us := us }
 else none
def ReadFail (e' : Ending) : Prop := ∃ (m : Nat) (x : Int) (a b c : Bool) (i : Int), e' = .returned (.tuple #[.int .u64 m, .int .i64 x, .bool a, .bool b, .bool c, .int .i64 i, .bool false])
def ReadPost (l : List UInt8) (w : World) (e' : Ending) (w' : World) : Prop :=
 Below w.heap.size w w' /\ match readN l with
  | none => ReadFail e'
  | some r => (e' = .returned (.tuple #[.int .u64 r.m, .int .i64 r.exp, .bool r.neg, .bool r.tr, .bool r.hex, .int .i64 r.n, .bool true])) \/ (r.us = true /\ ReadFail e')
theorem vint {k : IntKind} {a b : Int} (h : a = b) : Value.int k a = .int k b := by rw [h]
structure InvR (hex : Bool) (pos : Nat) (st : RS) : Prop where
 m : st.m < bas hex ^ st.ndm
 k : st.ndm <= mxm hex
 nd : st.nd <= pos
 lo : -(pos : Int) <= st.dp
 hi : st.dp <= pos
 le : st.ndm <= st.nd
theorem isD_iff (c : UInt8) : isD c = true ↔ 48 <= c.toNat /\ c.toNat <= 57 := by
 unfold isD; rw [Bool.and_eq_true, Nat.ble_eq, Nat.ble_eq]
theorem pow_step {b n m d : Nat} (h : m < b ^ n) (hd : d < b) : m * b + d < b ^ (n + 1) := by
 rw [Nat.pow_succ]
 have : (m + 1) * b <= b ^ n * b := Nat.mul_le_mul_right b h
 rw [Nat.add_mul] at this
 omega
theorem InvR.step {hex : Bool} {pos : Nat} {st st' : RS} {c : UInt8} (h : InvR hex pos st) (hs : stepR hex st c = some st') : InvR hex (pos + 1) st' := by
 obtain ⟨m, k, nd, lo1, hi, le⟩ := h
 have hlo := lo_lt c
 unfold stepR at hs
 split at hs
 ·cases hs; exact ⟨m, k, by show st.nd <= _; omega, by show _ <= st.dp; omega, by show st.dp <= _; omega, le⟩
 ·split at hs
  ·split at hs
   ·cases hs
   ·cases hs; exact ⟨m, k, by show st.nd <= _; omega, by show _ <= (st.nd : Int); omega, by show (st.nd : Int) <= _; omega, le⟩
  ·split at hs
   ·rename_i hd
    rw [isD_iff] at hd
    split at hs
    ·cases hs; exact ⟨m, k, by show st.nd <= _; omega, by show _ <= st.dp - 1; omega, by show st.dp - 1 <= _; omega, le⟩
    ·split at hs
     ·cases hs
      refine ⟨pow_step m ?_, by show st.ndm + 1 <= _; omega, by show st.nd + 1 <= _; omega, by show _ <= st.dp; omega, by show st.dp <= _; omega, by show st.ndm + 1 <= st.nd + 1; omega⟩
      unfold bas; split <;> omega
     ·cases hs; exact ⟨m, k, by show st.nd + 1 <= _; omega, by show _ <= st.dp; omega, by show st.dp <= _; omega, by show st.ndm <= st.nd + 1; omega⟩
   ·split at hs
    ·rename_i hd
     split at hs
     ·cases hs
      refine ⟨?_, by show st.ndm + 1 <= _; omega, by show st.nd + 1 <= _; omega, by show _ <= st.dp; omega, by show st.dp <= _; omega, by show st.ndm + 1 <= st.nd + 1; omega⟩
      have hh := hd.1
      subst hh
      exact pow_step m (by show _ < 16; omega)
     ·cases hs; exact ⟨m, k, by show st.nd + 1 <= _; omega, by show _ <= st.dp; omega, by show st.dp <= _; omega, by show st.ndm <= st.nd + 1; omega⟩
    ·cases hs
structure LRp (hex : Bool) (l : List UInt8) (j pos : Nat) (st : RS) : Prop where
 jp : j <= pos
 pl : pos <= l.length
 r1 : (runR hex RS0 (l.drop j)).1 = (runR hex st (l.drop pos)).1
 r2 : j + (runR hex RS0 (l.drop j)).2 = pos + (runR hex st (l.drop pos)).2
 inv : InvR hex pos st
theorem LRp.start (hex : Bool) (l : List UInt8) (j : Nat) (h : j <= l.length) : LRp hex l j j RS0 :=
 ⟨Nat.le_refl _, h, rfl, rfl, ⟨by show 0 < _; rw [show RS0.ndm = 0 from rfl, Nat.pow_zero]; omega, Nat.zero_le _, Nat.zero_le _, by show _ <= (0 : Int); omega, by show (0 : Int) <= _; omega, Nat.le_refl _⟩⟩
theorem LRp.next {hex : Bool} {l : List UInt8} {j pos : Nat} {st st' : RS} {c : UInt8} (h : LRp hex l j pos st) (hc : l[pos]? = some c) (hs : stepR hex st c = some st') : LRp hex l j (pos + 1) st' := by
 obtain ⟨hi, he⟩ := List.getElem?_eq_some_iff.1 hc
 obtain ⟨jp, pl, r1, r2, inv⟩ := h
 rw [List.drop_eq_getElem_cons hi, he] at r1 r2
 simp only [runR, hs] at r1 r2
 exact ⟨by omega, by omega, r1, by omega, inv.step hs⟩
structure LRe (hex : Bool) (l : List UInt8) (j pos : Nat) (st : RS) : Prop where
 jp : j <= pos
 pl : pos <= l.length
 r1 : (runR hex RS0 (l.drop j)).1 = st
 r2 : j + (runR hex RS0 (l.drop j)).2 = pos
 inv : InvR hex pos st
theorem LRp.stop {hex : Bool} {l : List UInt8} {j pos : Nat} {st : RS} {c : UInt8} (h : LRp hex l j pos st) (hc : l[pos]? = some c) (hs : stepR hex st c = none) : LRe hex l j pos st := by
 obtain ⟨hi, he⟩ := List.getElem?_eq_some_iff.1 hc
 obtain ⟨jp, pl, r1, r2, inv⟩ := h
 rw [List.drop_eq_getElem_cons hi, he] at r1 r2
 simp only [runR, hs] at r1 r2
 exact ⟨jp, pl, r1, by omega, inv⟩
theorem LRp.fin {hex : Bool} {l : List UInt8} {j pos : Nat} {st : RS} (h : LRp hex l j pos st) (hl : l.length <= pos) : LRe hex l j pos st := by
 obtain ⟨jp, pl, r1, r2, inv⟩ := h
 rw [List.drop_eq_nil_of_le hl] at r1 r2
 exact ⟨jp, pl, r1, r2, inv⟩
def LR (hex : Bool) (l : List UInt8) (j : Nat) (w : World) (n : Nat) (v2 v5 v7 v9 v13 v14 v15 v16 v17 : Value) (wr : World) : Prop :=
 ∃ (pos : Nat) (st : RS), n = l.length - pos /\ v2 = .int .u64 st.m /\ v5 = .bool st.tr /\ v7 = .int .i64 pos /\ v9 = .bool st.us /\ v13 = .bool st.dot /\ v14 = .bool st.dig /\ v15 = .int .i64 st.nd /\ v16 = .int .i64 st.ndm /\ v17 = .int .i64 st.dp /\ LRp hex l j pos st /\ wr = w
def Cut3 (hex : Bool) (l : List UInt8) (j : Nat) (w : World) (v2 v5 v7 v9 v13 v14 v15 v16 v17 : Value) (wr : World) : Prop :=
 ∃ (pos : Nat) (st : RS), v2 = .int .u64 st.m /\ v5 = .bool st.tr /\ v7 = .int .i64 pos /\ v9 = .bool st.us /\ v13 = .bool st.dot /\ v14 = .bool st.dig /\ v15 = .int .i64 st.nd /\ v16 = .int .i64 st.ndm /\ v17 = .int .i64 st.dp /\ LRe hex l j pos st /\ wr = w
def Cut1 (l : List UInt8) (w : World) (s4 s7 : Value) (wx : World) : Prop := s4 = .bool (l.head? = some 45) /\ s7 = .int .i64 (sgnLen l) /\ wx = w
theorem isHex_at (s : ByteArray) (j : Nat) (h : j + 2 < s.size) : isHex ((ls s).drop j) = (s[j] == 48 && Nat.beq (lo s[j + 1]) 120) := by
 have h1 := ls_getElem? s j (by omega)
 have h2 := ls_getElem? s (j + 1) (by omega)
 obtain ⟨i1, e1⟩ := List.getElem?_eq_some_iff.1 h1
 obtain ⟨i2, e2⟩ := List.getElem?_eq_some_iff.1 h2
 have i3 : j + 1 + 1 < (ls s).length := by rw [ls_length]; omega
 rw [List.drop_eq_getElem_cons i1, List.drop_eq_getElem_cons i2, List.drop_eq_getElem_cons i3, e1, e2]; rfl
theorem isHex_no (s : ByteArray) (j : Nat) (h : s.size <= j + 2) : isHex ((ls s).drop j) = false := by
 have hl : ((ls s).drop j).length <= 2 := by rw [List.length_drop, ls_length]; omega
 match hd : (ls s).drop j with
 | [] => rfl
 | [_] => rfl
 | [_, _] => rfl
 | _ :: _ :: _ :: _ => rw [hd] at hl; simp at hl
theorem hex2 (s : ByteArray) (j : Nat) (h : isHex ((ls s).drop j) = true) : j + 2 <= s.size := by
 by_cases h2 : j + 2 <= s.size
 ·exact h2
 ·rw [isHex_no s j (by omega)] at h; cases h
def Cut2 (l : List UInt8) (w : World) (s6 s7 s10 s11 s12 : Value) (wx : World) : Prop := ∃ hex j, hex = isHex (l.drop (sgnLen l)) /\ j = (if hex then sgnLen l + 2 else sgnLen l) /\ s6 = .bool hex /\ s7 = .int .i64 (j : Nat) /\ s10 = .int .u64 (bas hex) /\ s11 = .int .i64 (mxm hex) /\ s12 = .int .u8 (if hex then 112 else 101) /\ wx = w
theorem m_dec {m ndm : Nat} (h : m < bas false ^ ndm) (hk : ndm < 19) : m < 1000000000000000000 := by
 have h2 : m < 10 ^ ndm := h
 have h3 : 10 ^ ndm <= 10 ^ 18 := Nat.pow_le_pow_right (by decide) (by omega)
 have h4 : (10 : Nat) ^ 18 = 1000000000000000000 := by decide
 omega
theorem m_hex {m ndm : Nat} (h : m < bas true ^ ndm) (hk : ndm < 16) : m < 1152921504606846976 := by
 have h2 : m < 16 ^ ndm := h
 have h3 : 16 ^ ndm <= 16 ^ 15 := Nat.pow_le_pow_right (by decide) (by omega)
 have h4 : (16 : Nat) ^ 15 = 1152921504606846976 := by decide
 omega
theorem readN_nodig {l : List UInt8} {j J pos : Nat} {hex : Bool} {st : RS} (h1 : sgnLen l = j) (h2 : isHex (l.drop j) = hex) (h3 : (if hex then j + 2 else j) = J) (h4 : LRe hex l J pos st) (h5 : st.dig = false) : readN l = none := by
 unfold readN
 simp only [h1, h2, h3, h4.r1, h5, Bool.false_eq_true, if_false]
theorem readN_noexp {l : List UInt8} {j J pos : Nat} {hex : Bool} {st : RS} (h1 : sgnLen l = j) (h2 : isHex (l.drop j) = hex) (h3 : (if hex then j + 2 else j) = J) (h4 : LRe hex l J pos st) (h5 : expR hex st.us (l.drop pos) = none) : readN l = none := by
 unfold readN
 simp only [h1, h2, h3, h4.r1, h4.r2, h5]
 split <;> rfl
theorem readN_some {l : List UInt8} {j J pos n : Nat} {hex us : Bool} {st : RS} {e : Int} (h1 : sgnLen l = j) (h2 : isHex (l.drop j) = hex) (h3 : (if hex then j + 2 else j) = J) (h4 : LRe hex l J pos st) (h5 : st.dig = true) (h6 : expR hex st.us (l.drop pos) = some (e, us, n)) :
  readN l = some { m := st.m, exp := if st.m = 0 then 0 else (if hex then (if st.dot then st.dp else st.nd) * 4 else (if st.dot then st.dp else st.nd)) + e - (if hex then (st.ndm : Int) * 4 else st.ndm), neg := l.head? = some 45, tr := st.tr, hex := hex, n := pos + n, us := us } := by
 unfold readN
 simp only [h1, h2, h3, h4.r1, h4.r2, h5, h6, if_true]
structure EL (us0 : Bool) (l : List UInt8) (p0 pos e : Nat) (us : Bool) : Prop where
 pl : pos <= l.length
 pp : p0 <= pos
 r1 : (expL 0 us0 (l.drop p0)).1 = (expL e us (l.drop pos)).1
 r2 : (expL 0 us0 (l.drop p0)).2.1 = (expL e us (l.drop pos)).2.1
 r3 : p0 + (expL 0 us0 (l.drop p0)).2.2 = pos + (expL e us (l.drop pos)).2.2
 e : e < 100000
theorem EL.start (us0 : Bool) (l : List UInt8) (p0 : Nat) (h : p0 <= l.length) : EL us0 l p0 p0 0 us0 := ⟨h, Nat.le_refl _, rfl, rfl, rfl, by omega⟩
theorem EL.under {us0 us : Bool} {l : List UInt8} {p0 pos e : Nat} {c : UInt8} (h : EL us0 l p0 pos e us) (hc : l[pos]? = some c) (h1 : c = 95) : EL us0 l p0 (pos + 1) e true := by
 obtain ⟨hi, he⟩ := List.getElem?_eq_some_iff.1 hc
 obtain ⟨pl, pp, r1, r2, r3, e1⟩ := h
 rw [List.drop_eq_getElem_cons hi, he] at r1 r2 r3
 simp only [expL, if_pos h1] at r1 r2 r3
 exact ⟨by omega, by omega, r1, r2, by omega, e1⟩
theorem EL.digit {us0 us : Bool} {l : List UInt8} {p0 pos e : Nat} {c : UInt8} (h : EL us0 l p0 pos e us) (hc : l[pos]? = some c) (h1 : c ≠ 95) (h2 : isD c = true) : EL us0 l p0 (pos + 1) (if e < 10000 then e * 10 + (c.toNat - 48) else e) us := by
 obtain ⟨hi, he⟩ := List.getElem?_eq_some_iff.1 hc
 obtain ⟨pl, pp, r1, r2, r3, e1⟩ := h
 have hd := (isD_iff c).1 h2
 rw [List.drop_eq_getElem_cons hi, he] at r1 r2 r3
 simp only [expL, if_neg h1, if_pos h2] at r1 r2 r3
 exact ⟨by omega, by omega, r1, r2, by omega, by split <;> omega⟩
structure ELe (us0 : Bool) (l : List UInt8) (p0 pos e : Nat) (us : Bool) : Prop where
 pl : pos <= l.length
 pp : p0 <= pos
 r1 : (expL 0 us0 (l.drop p0)).1 = e
 r2 : (expL 0 us0 (l.drop p0)).2.1 = us
 r3 : p0 + (expL 0 us0 (l.drop p0)).2.2 = pos
 e : e < 100000
theorem EL.stop {us0 us : Bool} {l : List UInt8} {p0 pos e : Nat} {c : UInt8} (h : EL us0 l p0 pos e us) (hc : l[pos]? = some c) (h1 : c ≠ 95) (h2 : ¬ isD c = true) : ELe us0 l p0 pos e us := by
 obtain ⟨hi, he⟩ := List.getElem?_eq_some_iff.1 hc
 obtain ⟨pl, pp, r1, r2, r3, e1⟩ := h
 rw [List.drop_eq_getElem_cons hi, he] at r1 r2 r3
 simp only [expL, if_neg h1, if_neg h2] at r1 r2 r3
 exact ⟨pl, pp, r1, r2, by omega, e1⟩
theorem EL.fin {us0 us : Bool} {l : List UInt8} {p0 pos e : Nat} (h : EL us0 l p0 pos e us) (hl : l.length <= pos) : ELe us0 l p0 pos e us := by
 obtain ⟨pl, pp, r1, r2, r3, e1⟩ := h
 rw [List.drop_eq_nil_of_le hl] at r1 r2 r3
 exact ⟨pl, pp, r1, r2, r3, e1⟩
def ELr (us0 : Bool) (l : List UInt8) (p0 : Nat) (w : World) (n : Nat) (v7 v9 v20 : Value) (wr : World) : Prop :=
 ∃ (pos e : Nat) (us : Bool), n = l.length - pos /\ v7 = .int .i64 pos /\ v9 = .bool us /\ v20 = .int .i64 e /\ EL us0 l p0 pos e us /\ wr = w
def Cut5 (us0 : Bool) (l : List UInt8) (p0 : Nat) (w : World) (v7 v9 v20 : Value) (wr : World) : Prop :=
 ∃ (pos e : Nat) (us : Bool), v7 = .int .i64 pos /\ v9 = .bool us /\ v20 = .int .i64 e /\ ELe us0 l p0 pos e us /\ wr = w
theorem expR_end (hex us : Bool) (l : List UInt8) (pos : Nat) (h : l.length <= pos) : expR hex us (l.drop pos) = if hex then none else some (0, us, 0) := by
 rw [List.drop_eq_nil_of_le h]; rfl
theorem expR_other (hex us : Bool) (l : List UInt8) (pos : Nat) (c : UInt8) (hc : l[pos]? = some c) (h : lo c ≠ (if hex then 112 else 101)) : expR hex us (l.drop pos) = if hex then none else some (0, us, 0) := by
 obtain ⟨hi, he⟩ := List.getElem?_eq_some_iff.1 hc
 rw [List.drop_eq_getElem_cons hi, he]
 unfold expR
 simp only [if_neg h]
theorem expR_bad (hex us : Bool) (l : List UInt8) (pos : Nat) (c : UInt8) (k : Nat) (hc : l[pos]? = some c) (h : lo c = (if hex then 112 else 101))
  (hk : (if l[pos + 1]? = some 43 \/ l[pos + 1]? = some 45 then 1 else 0) = k) (hd : ∀ d, l[pos + 1 + k]? = some d -> ¬ isD d = true) : expR hex us (l.drop pos) = none := by
 obtain ⟨hi, he⟩ := List.getElem?_eq_some_iff.1 hc
 have hh : (l.drop (pos + 1)).head? = l[pos + 1]? := by rw [List.head?_drop]
 rw [List.drop_eq_getElem_cons hi, he]
 unfold expR
 simp only [if_pos h, hh, hk, List.drop_drop]
 cases hx : l.drop (pos + 1 + k) with
 | nil => rfl
 | cons d t =>
  have h1 : l[pos + 1 + k]? = some d := by rw [<- List.head?_drop, hx]; rfl
  simp only [if_neg (hd d h1)]
theorem expR_good (hex us : Bool) (l : List UInt8) (pos : Nat) (c d : UInt8) (k : Nat) (hc : l[pos]? = some c) (h : lo c = (if hex then 112 else 101))
  (hk : (if l[pos + 1]? = some 43 \/ l[pos + 1]? = some 45 then 1 else 0) = k) (h1 : l[pos + 1 + k]? = some d) (hd : isD d = true) :
  expR hex us (l.drop pos) = some (((expL 0 us (l.drop (pos + 1 + k))).1 : Int) * (if l[pos + 1]? = some 45 then (-1 : Int) else 1), (expL 0 us (l.drop (pos + 1 + k))).2.1, 1 + k + (expL 0 us (l.drop (pos + 1 + k))).2.2) := by
 obtain ⟨hi, he⟩ := List.getElem?_eq_some_iff.1 hc
 have hh : (l.drop (pos + 1)).head? = l[pos + 1]? := by rw [List.head?_drop]
 rw [List.drop_eq_getElem_cons hi, he]
 unfold expR
 simp only [if_pos h, hh, hk, List.drop_drop]
 obtain ⟨hi1, he1⟩ := List.getElem?_eq_some_iff.1 h1
 rw [List.drop_eq_getElem_cons hi1, he1]
 simp only [if_pos hd]
end Go.Proofs.YtdfolbmoohcblaaGreatDoor
