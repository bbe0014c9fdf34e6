/-
For FnReadAgain, part 46: F4 F5 L1.
-/
import Derived.Test.YtdfolbmoohcblaaGreatDoorM45
import Derived.Test.YtdfolbmoohcblaaGreatDoorM26
import Derived.Test.YtdfolbmoohcblaaGreatDoorM38
import Derived.Test.YtdfolbmoohcblaaGreatDoorM40
set_option linter.all false
namespace Go.Proofs.YtdfolbmoohcblaaGreatDoor
def Dig (c : UInt8) : Prop := ∃ i, i < 10 /\ c = UInt8.ofNat (48 + i)
theorem Dig.n {c : UInt8} (h : Dig c) : 48 <= c.toNat /\ c.toNat <= 57 := by
 obtain ⟨i, hi, rfl⟩ := h
 simp; omega
theorem Dig.isD {c : UInt8} (h : Dig c) : isD c = true := (isD_iff _).2 h.n
theorem Dig.ne {c : UInt8} (h : Dig c) : c ≠ 95 /\ c ≠ 46 /\ c ≠ 43 /\ c ≠ 45 /\ c ≠ 101 := by
 obtain ⟨i, hi, rfl⟩ := h
 rcases (show i = 0 \/ i = 1 \/ i = 2 \/ i = 3 \/ i = 4 \/ i = 5 \/ i = 6 \/ i = 7 \/ i = 8 \/ i = 9 by omega) with rfl | rfl | rfl | rfl | rfl | rfl | rfl | rfl | rfl | rfl <;> decide
theorem Dig.lo {c : UInt8} (h : Dig c) : lo c ≠ 120 /\ c ≠ 105 /\ c ≠ 73 /\ c ≠ 110 /\ c ≠ 78 /\ low1 c ≠ 105 := by
 obtain ⟨i, hi, rfl⟩ := h
 rcases (show i = 0 \/ i = 1 \/ i = 2 \/ i = 3 \/ i = 4 \/ i = 5 \/ i = 6 \/ i = 7 \/ i = 8 \/ i = 9 by omega) with rfl | rfl | rfl | rfl | rfl | rfl | rfl | rfl | rfl | rfl <;> decide
def Digs (l : List UInt8) : Prop := ∀ c ∈ l, Dig c
def valD (l : List UInt8) : Nat := l.foldl (fun a c => a * 10 + (c.toNat - 48)) 0
theorem fold_val : ∀ (l : List UInt8) (x : Nat), l.foldl (fun a c => a * 10 + (c.toNat - 48)) x = x * 10 ^ l.length + valD l
 | [], x => by simp [valD]
 | c :: l, x => by
  have h1 := fold_val l (x * 10 + (c.toNat - 48))
  have h2 := fold_val l (0 * 10 + (c.toNat - 48))
  unfold valD
  rw [List.foldl_cons, List.foldl_cons, h1, h2, List.length_cons, Nat.pow_succ, Nat.add_mul, Nat.mul_assoc, Nat.mul_comm 10]
  simp; omega
theorem val_append (a b : List UInt8) : valD (a ++ b) = valD a * 10 ^ b.length + valD b := by
 rw [valD, List.foldl_append, fold_val b]; rfl
theorem val_zeros (n : Nat) : valD (List.replicate n 48) = 0 := by
 induction n with
 | zero => rfl
 | succ n ih => rw [List.replicate_succ', val_append, ih]; rfl
theorem val_lt : ∀ l : List UInt8, Digs l -> valD l < 10 ^ l.length
 | [], _ => by simp [valD]
 | c :: l, h => by
  have h1 := val_lt l (fun x hx => h x (List.mem_cons_of_mem _ hx))
  have h2 := (h c (List.mem_cons_self ..)).n
  have : valD (c :: l) = (c.toNat - 48) * 10 ^ l.length + valD l := by
   rw [show c :: l = [c] ++ l from rfl, val_append]; simp [valD]
  rw [this, List.length_cons, Nat.pow_succ]
  have := Nat.mul_le_mul_right (10 ^ l.length) (show c.toNat - 48 <= 9 by omega)
  omega
theorem dec_digs (u : Nat) : Digs (Lib.decDigits u) /\ valD (Lib.decDigits u) = u := by
 induction u using Nat.strongRecOn with
 | ind u ih =>
  rw [Lib.decDigits]
  split
  ·rename_i h
   refine ⟨?_, ?_⟩
   ·intro c hc
    exact ⟨u, h, List.mem_singleton.1 hc⟩
   ·simp [valD]; omega
  ·rename_i h
   obtain ⟨h1, h2⟩ := ih (u / 10) (by omega)
   refine ⟨?_, ?_⟩
   ·intro c hc
    rcases List.mem_append.1 hc with hc | hc
    ·exact h1 c hc
    ·exact ⟨u % 10, by omega, List.mem_singleton.1 hc⟩
   ·rw [val_append, h2]
    simp [valD]; omega
theorem nzd_split (l : List UInt8) : l = l.take (nzd l) ++ List.replicate (l.length - nzd l) 48 := by
 have h1 : l = (l.reverse.dropWhile (· == 48)).reverse ++ (l.reverse.takeWhile (· == 48)).reverse := by
  rw [<- List.reverse_append, List.takeWhile_append_dropWhile, List.reverse_reverse]
 have h2 : (l.reverse.dropWhile (· == 48)).reverse.length = nzd l := by rw [List.length_reverse]; rfl
 generalize hA : (l.reverse.dropWhile (· == 48)).reverse = A at *
 have h3 : (l.reverse.takeWhile (· == 48)).reverse = List.replicate (l.length - nzd l) 48 := by
  rw [List.eq_replicate_iff]
  refine ⟨?_, ?_⟩
  ·have := congrArg List.length h1
   rw [List.length_append] at this
   omega
  ·intro c hc
   rw [List.mem_reverse] at hc
   have := List.all_takeWhile (p := fun c : UInt8 => c == 48) (l := l.reverse)
   have := List.all_eq_true.1 this c hc
   simpa using this
 rw [h3] at h1
 have h4 : l.take (nzd l) = A := by
  generalize hn : l.length - nzd l = n at h1
  rw [<- h2, h1]
  exact List.take_left' rfl
 rw [h4]; exact h1
theorem nzd_digs {l : List UInt8} (h : Digs l) : Digs (l.take (nzd l)) := fun c hc => h c (List.mem_of_mem_take hc)
theorem nzd_val (l : List UInt8) : valD l = valD (l.take (nzd l)) * 10 ^ (l.length - nzd l) := by
 conv => lhs; rw [nzd_split l]
 rw [val_append, val_zeros, List.length_replicate, Nat.add_zero]
theorem runR_app (hex : Bool) : ∀ (A B : List UInt8) (s s' : RS), runR hex s A = (s', A.length) -> runR hex s (A ++ B) = ((runR hex s' B).1, A.length + (runR hex s' B).2)
 | [], B, s, s', h => by
  simp [runR] at h
  subst h
  simp
 | c :: A, B, s, s', h => by
  unfold runR at h
  rw [List.cons_append, runR]
  cases hs : stepR hex s c with
  | none => rw [hs] at h; simp at h
  | some s1 =>
   rw [hs] at h
   have h1 := congrArg Prod.fst h
   have h2 := congrArg Prod.snd h
   simp only [List.length_cons] at h1 h2
   have ih := runR_app hex A B s1 s' (by rw [<- h1]; exact Prod.ext rfl (by simpa using h2))
   simp only [ih, List.length_cons]
   exact Prod.ext rfl (by show _ + _ + 1 = _; omega)
theorem dig_run : ∀ (D : List UInt8) (s : RS), Digs D -> s.nd = s.ndm -> (s.nd = 0 -> s.m = 0) -> s.ndm + D.length <= 19 ->
  ∃ s', runR false s D = (s', D.length) /\ s'.m = s.m * 10 ^ D.length + valD D /\ s'.dot = s.dot /\ s'.dp - s'.ndm = s.dp - s.ndm - D.length /\ s'.nd = s'.ndm /\ s'.us = s.us /\ s'.tr = s.tr /\ (s'.nd = 0 -> s'.m = 0) /\ s'.ndm <= s.ndm + D.length /\ (D ≠ [] -> s'.dig = true) /\ (s.dig = true -> s'.dig = true)
 | [], s, _, h1, h2, _ => ⟨s, by simp [runR], by simp [valD], rfl, by simp, h1, rfl, rfl, h2, by simp, by simp, id⟩
 | c :: D, s, hd, h1, h2, h3 => by
  have hc := hd c (List.mem_cons_self ..)
  have hcn := hc.n
  have hv : valD (c :: D) = (c.toNat - 48) * 10 ^ D.length + valD D := by
   rw [show c :: D = [c] ++ D from rfl, val_append]; simp [valD]
  rw [List.length_cons] at h3
  have hstep : ∃ s1, stepR false s c = some s1 /\ s1.m = s.m * 10 + (c.toNat - 48) /\ s1.dot = s.dot /\ s1.dp - s1.ndm = s.dp - s.ndm - 1 /\ s1.nd = s1.ndm /\ s1.us = s.us /\ s1.tr = s.tr /\ (s1.nd = 0 -> s1.m = 0) /\ s1.ndm <= s.ndm + 1 /\ s1.dig = true := by
   unfold stepR
   rw [if_neg hc.ne.1, if_neg hc.ne.2.1, if_pos hc.isD]
   by_cases hz : c = 48 /\ s.nd = 0
   ·rw [if_pos hz]
    refine ⟨_, rfl, ?_, rfl, by dsimp only; omega, h1, rfl, rfl, h2, by dsimp only; omega, rfl⟩
    have := h2 hz.2
    rw [hz.1]
    show s.m = _
    rw [this]; rfl
   ·rw [if_neg hz, if_pos (show s.ndm < mxm false by unfold mxm; simp; omega)]
    refine ⟨_, rfl, by simp [bas], rfl, by dsimp only; omega, by dsimp only; omega, rfl, rfl, by dsimp only; omega, by dsimp only; omega, rfl⟩
  obtain ⟨s1, hs, e1, e2, e3, e4, e5, e6, e7, e8, e9⟩ := hstep
  obtain ⟨s', r0, r1, r2, r3, r4, r5, r6, r7, r8, r9, r10⟩ := dig_run D s1 (fun x hx => hd x (List.mem_cons_of_mem _ hx)) e4 e7 (by omega)
  refine ⟨s', ?_, ?_, r2.trans e2, ?_, r4, r5.trans e5, r6.trans e6, r7, ?_, fun _ => r10 e9, fun _ => r10 e9⟩
  ·rw [runR, hs]; simp only [r0, List.length_cons]
  ·rw [r1, e1, hv, List.length_cons, Nat.pow_succ, Nat.add_mul, Nat.mul_assoc, Nat.mul_comm 10]; omega
  ·rw [List.length_cons]; omega
  ·rw [List.length_cons]; omega
theorem zero_run : ∀ (z : Nat) (s : RS), s.nd = 0 -> runR false s (List.replicate z 48) = ({ s with dig := s.dig || z != 0, dp := s.dp - z }, z)
 | 0, s, h => by simp [runR]
 | z + 1, s, h => by
  rw [List.replicate_succ, runR]
  have : stepR false s 48 = some { s with dig := true, dp := s.dp - 1 } := by
   unfold stepR
   rw [if_neg (by decide), if_neg (by decide), if_pos (by decide), if_pos ⟨rfl, h⟩]
  rw [this]
  have ih := zero_run z { s with dig := true, dp := s.dp - 1 } h
  simp only [ih]
  refine Prod.ext ?_ rfl
  simp
  omega
def MR (T : List UInt8) (M : Nat) (x : Int) : Prop :=
 ∃ s', runR false RS0 T = (s', T.length) /\ s'.m = M /\ (if s'.dot then s'.dp else (s'.nd : Int)) - s'.ndm = x /\ s'.dig = true /\ s'.us = false /\ s'.tr = false
theorem mr_int {I : List UInt8} (h : Digs I) (h0 : I ≠ []) (hl : I.length <= 19) : MR I (valD I) 0 := by
 obtain ⟨s', r0, r1, r2, r3, r4, r5, r6, -, -, r9, -⟩ := dig_run I RS0 h rfl (fun _ => rfl) (by show 0 + _ <= 19; omega)
 refine ⟨s', r0, by rw [r1]; simp [RS0], ?_, r9 h0, r5, r6⟩
 rw [r2]
 show (if false = true then _ else _) - _ = _
 simp only [Bool.false_eq_true, if_false]
 omega
theorem dot_run {s : RS} (h : s.dot = false) (F : List UInt8) (s' : RS) (h2 : runR false { s with dot := true, dp := s.nd } F = (s', F.length)) : runR false s (46 :: F) = (s', F.length + 1) := by
 rw [runR]
 have : stepR false s 46 = some { s with dot := true, dp := s.nd } := by
  unfold stepR
  rw [if_neg (by decide), if_pos rfl, h]
  simp
 rw [this]
 simp only [h2]
theorem mr_frac {I F : List UInt8} (h : Digs I) (hF : Digs F) (h0 : I ≠ []) (hl : I.length + F.length <= 19) : MR (I ++ 46 :: F) (valD (I ++ F)) (-(F.length : Int)) := by
 obtain ⟨s', r0, r1, r2, r3, r4, r5, r6, r7, r8, r9, -⟩ := dig_run I RS0 h rfl (fun _ => rfl) (by show 0 + _ <= 19; omega)
 have r8' : s'.ndm <= 0 + I.length := r8
 obtain ⟨t, u0, u1, u2, u3, u4, u5, u6, -, -, -, u10⟩ := dig_run F { s' with dot := true, dp := s'.nd } hF r4 r7 (by show s'.ndm + _ <= 19; omega)
 have e := dot_run (s := s') (by rw [r2]; rfl) F t u0
 refine ⟨t, ?_, ?_, ?_, u10 (r9 h0), u5.trans r5, u6.trans r6⟩
 ·rw [runR_app false I (46 :: F) RS0 s' r0, e]; simp
 ·rw [u1, val_append]
  show s'.m * _ + _ = _
  rw [r1]; simp [RS0]
 ·rw [u2]
  simp only [if_true]
  rw [u3]
  dsimp only
  omega
theorem mr_small {D : List UInt8} (z : Nat) (h : Digs D) (hl : D.length <= 19) : MR (48 :: 46 :: (List.replicate z 48 ++ D)) (valD D) (-((z : Int) + D.length)) := by
 have e1 := zero_run 1 RS0 rfl
 have e2 := zero_run z { RS0 with dig := true, dp := 0, dot := true } rfl
 obtain ⟨t, u0, u1, u2, u3, u4, u5, u6, -, -, -, u10⟩ := dig_run D { RS0 with dig := true, dp := 0 - (z : Int), dot := true } h rfl (fun _ => rfl) (by show 0 + _ <= 19; omega)
 have e3 : runR false { RS0 with dig := true, dp := 0, dot := true } (List.replicate z 48 ++ D) = (t, (List.replicate z 48 ++ D).length) := by
  have e2' : runR false { RS0 with dig := true, dp := 0, dot := true } (List.replicate z 48) = ({ RS0 with dig := true, dp := 0 - (z : Int), dot := true }, (List.replicate z (48 : UInt8)).length) := by
   rw [e2, List.length_replicate]; simp
  rw [runR_app false _ D _ _ e2', u0]; simp
 have e4 : runR false { RS0 with dig := true, dp := -1 } (46 :: (List.replicate z 48 ++ D)) = (t, (List.replicate z 48 ++ D).length + 1) := dot_run rfl _ t e3
 refine ⟨t, ?_, ?_, ?_, u10 rfl, u5, u6⟩
 ·have e5 : runR false RS0 [48] = ({ RS0 with dig := true, dp := -1 }, [(48 : UInt8)].length) := by
   have : List.replicate 1 (48 : UInt8) = [48] := rfl
   rw [<- this, e1]; rfl
  rw [show 48 :: 46 :: (List.replicate z 48 ++ D) = [48] ++ 46 :: (List.replicate z 48 ++ D) from rfl, runR_app false _ _ _ _ e5, e4]
  simp; omega
 ·rw [u1]; simp [RS0]
 ·rw [u2]
  simp only [if_true]
  rw [u3]
  show 0 - (z : Int) - ((0 : Nat) : Int) - _ = _
  omega
theorem hex_no {l : List UInt8} (h : ∀ c ∈ l, lo c ≠ 120) : isHex l = false := by
 unfold isHex
 split
 ·rename_i a b _ _
  have : Nat.beq (lo b) 120 = false := by
   have := h b (by simp)
   cases hb : Nat.beq (lo b) 120
   ·rfl
   ·exact absurd (Nat.eq_of_beq_eq_true hb) this
  rw [this, Bool.and_false]
 ·rfl
theorem readN_at (neg : Bool) (T X : List UInt8) (M : Nat) (x e : Int) (hT : MR T M x) (hTd : ∃ c r, T = c :: r /\ Dig c) (hsafe : ∀ c ∈ T ++ X, lo c ≠ 120) (hX : ∀ s, runR false s X = (s, 0))
  (hE : expR false false X = some (e, false, X.length)) (hM : M ≠ 0) :
  readN (sgnB neg ++ (T ++ X)) = some ⟨M, x + e, neg, false, false, (sgnB neg ++ (T ++ X)).length, false⟩ := by
 obtain ⟨s', r0, r1, r2, r3, r4, r5⟩ := hT
 obtain ⟨c, r, rfl, hc⟩ := hTd
 have hs : sgnLen (sgnB neg ++ ((c :: r) ++ X)) = (sgnB neg).length := by
  unfold sgnLen sgnB
  cases neg
  ·simp only [Bool.false_eq_true, if_false, List.nil_append, List.cons_append, List.head?_cons, Option.some.injEq]
   rw [if_neg (fun h => h.elim hc.ne.2.2.1 hc.ne.2.2.2.1)]
   rfl
  ·simp
 have hn : ((sgnB neg ++ ((c :: r) ++ X)).head? = some 45) = (neg = true) := by
  unfold sgnB
  cases neg
  ·simp [hc.ne.2.2.2.1]
  ·simp
 have hd : (sgnB neg ++ ((c :: r) ++ X)).drop (sgnB neg).length = (c :: r) ++ X := List.drop_left
 have hrun : runR false RS0 ((c :: r) ++ X) = (s', (c :: r).length) := by rw [runR_app false _ X _ _ r0, hX]; rfl
 have hd2 : (sgnB neg ++ ((c :: r) ++ X)).drop ((sgnB neg).length + (c :: r).length) = X := by
  rw [<- List.drop_drop, hd, List.drop_left]
 unfold readN
 simp only [hs, hd, hex_no hsafe, Bool.false_eq_true, if_false, hrun, hd2, r3, if_true, r4, hE, r1, if_neg hM, r5]
 refine congrArg some ?_
 have : (if s'.dot = true then s'.dp else (s'.nd : Int)) + e - (s'.ndm : Int) = x + e := by omega
 rw [this]
 simp only [hn, List.length_append]
 congr 1
 ·simp
 ·omega
theorem one_dig {i : Nat} (h : i < 10) : Dig (UInt8.ofNat (48 + i)) /\ (UInt8.ofNat (48 + i)).toNat - 48 = i := by
 refine ⟨⟨i, h, rfl⟩, ?_⟩
 simp; omega
theorem expoD_at (n : Nat) (h : n < 1000) : Digs (expoD n) /\ valD (expoD n) = n /\ (expoD n).length <= 3 /\ expoD n ≠ [] := by
 have z : Dig 48 := ⟨0, by decide, rfl⟩
 rcases Nat.lt_or_ge n 10 with h1 | h1
 ·rw [expo1 h1]
  obtain ⟨a, b⟩ := one_dig h1
  refine ⟨?_, ?_, by simp, by simp⟩
  ·intro c hc; rcases List.mem_cons.1 hc with rfl | hc
   ·exact z
   ·rw [List.mem_singleton.1 hc]; exact a
  ·simp only [valD, List.foldl_cons, List.foldl_nil, b]; simp
 ·rcases Nat.lt_or_ge n 100 with h2 | h2
  ·rw [expo2 ⟨h1, h2⟩]
   obtain ⟨a, b⟩ := one_dig (show n / 10 < 10 by omega)
   obtain ⟨a2, b2⟩ := one_dig (show n % 10 < 10 by omega)
   refine ⟨?_, ?_, by simp, by simp⟩
   ·intro c hc; rcases List.mem_cons.1 hc with rfl | hc
    ·exact a
    ·rw [List.mem_singleton.1 hc]; exact a2
   ·simp only [valD, List.foldl_cons, List.foldl_nil, b, b2]; omega
  ·rw [expo3 h2]
   obtain ⟨a, b⟩ := one_dig (show n / 100 < 10 by omega)
   obtain ⟨a2, b2⟩ := one_dig (show n / 10 % 10 < 10 by omega)
   obtain ⟨a3, b3⟩ := one_dig (show n % 10 < 10 by omega)
   refine ⟨?_, ?_, by simp, by simp⟩
   ·intro c hc; rcases List.mem_cons.1 hc with rfl | hc
    ·exact a
    ·rcases List.mem_cons.1 hc with rfl | hc
     ·exact a2
     ·rw [List.mem_singleton.1 hc]; exact a3
   ·simp only [valD, List.foldl_cons, List.foldl_nil, b, b2, b3]; omega
theorem expL_at (us : Bool) : ∀ (D : List UInt8) (e a : Nat), Digs D -> e < 10 ^ a -> a + D.length <= 4 -> expL e us D = (e * 10 ^ D.length + valD D, us, D.length)
 | [], e, a, _, _, _ => by simp [expL, valD]
 | c :: D, e, a, hd, h1, h2 => by
  have hc := hd c (List.mem_cons_self ..)
  have hcn := hc.n
  rw [List.length_cons] at h2
  have h3 : 10 ^ a <= 10 ^ 3 := Nat.pow_le_pow_right (by decide) (by omega)
  have hv : valD (c :: D) = (c.toNat - 48) * 10 ^ D.length + valD D := by
   rw [show c :: D = [c] ++ D from rfl, val_append]; simp [valD]
  rw [expL, if_neg hc.ne.1, if_pos hc.isD]
  simp only [if_pos (show e < 10000 by omega)]
  have ih := expL_at us D (e * 10 + (c.toNat - 48)) (a + 1) (fun x hx => hd x (List.mem_cons_of_mem _ hx)) (by rw [Nat.pow_succ]; omega) (by omega)
  simp only [ih, List.length_cons, hv, Nat.pow_succ, Nat.add_mul, Nat.mul_assoc, Nat.mul_comm 10]
  refine Prod.ext ?_ rfl
  show _ + _ + _ = _ + _
  omega
def expS (x : Int) : UInt8 := if x < 0 then 45 else 43
theorem expo_eq (x : Int) : expo x = expS x :: expoD x.natAbs := rfl
theorem expR_at (x : Int) (h : x.natAbs < 1000) : expR false false (101 :: expo x) = some (x, false, (101 :: expo x).length) := by
 obtain ⟨h1, h2, h3, h4⟩ := expoD_at _ h
 rw [expo_eq]
 generalize hD : expoD x.natAbs = D at *
 cases D with
 | nil => exact absurd rfl h4
 | cons d t =>
  have hd := h1 d (List.mem_cons_self ..)
  have hL := expL_at false (d :: t) 0 0 h1 (by decide) (by omega)
  rw [Nat.zero_mul, Nat.zero_add, h2] at hL
  have l101 : lo 101 = 101 := by decide
  unfold expR expS
  simp only [l101, Bool.false_eq_true, if_false, if_true, List.head?_cons, Option.some.injEq]
  by_cases hx : x < 0
  ·simp only [if_pos hx]
   simp only [if_true, show ((45 : UInt8) = 43 \/ True) = True from by simp, List.drop_one, List.tail_cons, hd.isD, hL]
   refine congrArg some (Prod.ext ?_ (Prod.ext rfl ?_))
   ·show _ * (-1 : Int) = x; omega
   ·simp; omega
  ·simp only [if_neg hx]
   simp only [show ((43 : UInt8) = 45) = False from by simp, if_false, true_or, if_true, List.drop_one, List.tail_cons, hd.isD, hL]
   refine congrArg some (Prod.ext ?_ (Prod.ext rfl ?_))
   ·show _ * (1 : Int) = x; omega
   ·simp; omega
theorem stop_e (r : List UInt8) (s : RS) : runR false s (101 :: r) = (s, 0) := by
 rw [runR]
 have : stepR false s 101 = none := by
  unfold stepR
  rw [if_neg (by decide), if_neg (by decide), if_neg (by decide), if_neg (by simp)]
 rw [this]
theorem safe_e (x : Int) (h : x.natAbs < 1000) : ∀ c ∈ 101 :: expo x, lo c ≠ 120 := by
 obtain ⟨h1, -⟩ := expoD_at _ h
 rw [expo_eq]
 intro c hc
 rcases List.mem_cons.1 hc with rfl | hc
 ·decide
 ·rcases List.mem_cons.1 hc with rfl | hc
  ·unfold expS; split <;> decide
  ·exact (h1 c hc).lo.1
theorem special_no (neg : Bool) (c : UInt8) (r : List UInt8) (hc : Dig c) : specialN (sgnB neg ++ c :: r) = none := by
 have h0 : cpl (c :: r) txInf = 0 := by
  unfold txInf cpl
  rw [if_neg hc.lo.2.2.2.2.2]
 unfold specialN sgnB
 cases neg
 ·simp only [Bool.false_eq_true, if_false, List.nil_append]
  rw [if_neg (fun h => h.elim hc.ne.2.2.1 hc.ne.2.2.2.1), if_neg (fun h => h.elim hc.lo.2.1 hc.lo.2.2.1), if_neg (fun h => h.elim hc.lo.2.2.2.1 hc.lo.2.2.2.2.1)]
 ·simp only [if_true, List.cons_append, List.nil_append]
  rw [if_pos (.inr trivial)]
  have : spn (c :: r) = 0 := by unfold spn; rw [h0]; rfl
  rw [this, if_neg (by decide)]
theorem inn_range {k : Nat} {q : Int} {y : Rat} (h : In0 k q y) : (2 : Rat) ^ (-1075 : Int) <= y /\ y <= (2 : Rat) ^ (1024 : Int) := by
 obtain ⟨k1, k2, q1, q2, nm, lo, hi, los, his, sk⟩ := h
 have k2' : (k : Rat) + 1 <= 9007199254740992 := by exact_mod_cast k2
 have k1' : (1 : Rat) <= k := by exact_mod_cast k1
 refine ⟨?_, ?_⟩
 ·have u1 := two_mono (show (-1075 : Int) <= q - 1 by omega)
  have u2 := Rat.mul_le_mul_of_nonneg_right (show (1 : Rat) <= (2 * k : Rat) - 1 by grind) (Rat.le_of_lt (two_pos (q - 1)))
  rw [Rat.one_mul] at u2
  exact Rat.le_trans u1 (Rat.le_trans u2 lo)
 ·have u1 := two_mono (show q - 1 <= (970 : Int) by omega)
  have u2 := Rat.mul_le_mul_of_nonneg_right (show (2 * k : Rat) + 1 <= 18014398509481984 by grind) (Rat.le_of_lt (two_pos (q - 1)))
  have e : (2 : Rat) ^ (1024 : Int) = 18014398509481984 * (2 : Rat) ^ (970 : Int) := by
   rw [show (1024 : Int) = 54 + 970 from rfl, tz]; rfl
  rw [e]
  have u3 := Rat.mul_le_mul_of_nonneg_left u1 (show (0 : Rat) <= 18014398509481984 by decide)
  exact Rat.le_trans hi (Rat.le_trans u2 u3)
theorem ten_mono {a b : Int} (h : a <= b) : (10 : Rat) ^ a <= (10 : Rat) ^ b := by
 obtain ⟨n, rfl⟩ : ∃ n : Nat, b = a + n := ⟨(b - a).toNat, by omega⟩
 rw [Rat.zpow_add (by decide), Rat.zpow_natCast]
 have h1 : (1 : Rat) <= (10 : Rat) ^ n := by
  have : 1 <= 10 ^ n := Nat.one_le_pow _ _ (by decide)
  exact_mod_cast this
 have := Rat.mul_le_mul_of_nonneg_left h1 (Rat.le_of_lt (Rat.zpow_pos (n := a) (show (0 : Rat) < 10 by decide)))
 rwa [Rat.mul_one] at this
theorem ten_lo : (10 : Rat) ^ (19 : Int) * (10 : Rat) ^ (-346 : Int) < (2 : Rat) ^ (-1075 : Int) := by decide +kernel
theorem ten_hi : (2 : Rat) ^ (1024 : Int) < (10 : Rat) ^ (311 : Int) := by decide +kernel
theorem exp_range {k : Nat} {q : Int} {y : Rat} (h : In0 k q y) (M : Nat) (x : Int) (hM : M ≠ 0) (hM2 : M < 10 ^ 19) (hy : y = (M : Rat) * (10 : Rat) ^ x) : -345 <= x /\ x <= 310 := by
 obtain ⟨h1, h2⟩ := inn_range h
 have hp : (0 : Rat) < (10 : Rat) ^ x := Rat.zpow_pos (by decide)
 refine ⟨?_, ?_⟩
 ·rcases Int.lt_or_le x (-345) with g | g
  ·exfalso
   have g1 := ten_mono (show x <= -346 by omega)
   have g2 : (M : Rat) <= (10 : Rat) ^ (19 : Int) := by
    have e : (10 : Rat) ^ (19 : Int) = ((10 ^ 19 : Nat) : Rat) := rfl
    rw [e]; exact_mod_cast Nat.le_of_lt hM2
   have g3 := Rat.mul_le_mul_of_nonneg_right g2 (Rat.le_of_lt hp)
   have g4 := Rat.mul_le_mul_of_nonneg_left g1 (show (0 : Rat) <= (10 : Rat) ^ (19 : Int) by decide)
   have g5 := Rat.le_trans g3 g4
   rw [<- hy] at g5
   exact absurd (rat_lt_le ten_lo (Rat.le_trans h1 g5)) Rat.lt_irrefl
  ·exact g
 ·rcases Int.lt_or_le 310 x with g | g
  ·exfalso
   have g1 := ten_mono (show (311 : Int) <= x by omega)
   have g2 : (1 : Rat) <= M := by exact_mod_cast Nat.pos_of_ne_zero hM
   have g3 := Rat.mul_le_mul_of_nonneg_right g2 (Rat.le_of_lt hp)
   rw [Rat.one_mul, <- hy] at g3
   exact absurd (rat_lt_le ten_hi (Rat.le_trans g1 (Rat.le_trans g3 h2))) Rat.lt_irrefl
  ·exact g
theorem atof_at {k : Nat} {q : Int} {y : Rat} (h : Inn k q y) (neg : Bool) (T X : List UInt8) (M : Nat) (x e : Int) (hT : MR T M x) (hTd : ∃ c r, T = c :: r /\ Dig c) (hsafe : ∀ c ∈ T ++ X, lo c ≠ 120) (hX : ∀ s, runR false s X = (s, 0))
  (hE : expR false false X = some (e, false, X.length)) (hM : M ≠ 0) (hM2 : M < 10 ^ 19) (hy : y = (M : Rat) * (10 : Rat) ^ (x + e)) :
  atofP (sgnB neg ++ (T ++ X)) = some (Ieee.double.word neg (rung k q), (sgnB neg ++ (T ++ X)).length) := by
 have hr := readN_at neg T X M x e hT hTd hsafe hX hE hM
 obtain ⟨x1, x2⟩ := exp_range h.in0 M (x + e) hM hM2 hy
 obtain ⟨c, r, rfl, hc⟩ := hTd
 have hs : specialN (sgnB neg ++ (c :: r ++ X)) = none := special_no neg c (r ++ X) hc
 unfold atofP
 rw [hs, hr]
 simp only [Bool.false_eq_true, or_self, if_false, if_neg hM, if_neg (show ¬ (x + e < -345 \/ 310 < x + e) by omega)]
 cases hx : exactN M (x + e) neg with
 | some v =>
  simp only
  rw [exact_at h.in0 M (x + e) neg hM hy hx]
 | none =>
  simp only
  have hp := parse_at h M (x + e) hM (by omega) (by omega) (by omega) hy
  simp only [hp, pack_at neg h.k2 h.q1 h.q2 h.nm]
end Go.Proofs.YtdfolbmoohcblaaGreatDoor
namespace Go.Proofs.YtdfolbmoohcblaaGreatDoor
theorem nd_le : ∀ (k u : Nat), u < 10 ^ (k + 1) -> Lib.nDigits u <= k + 1
 | 0, u, h => by rw [Lib.nDigits_small (by simpa using h)]; exact Nat.le_refl _
 | k + 1, u, h => by
  rcases Nat.lt_or_ge u 10 with g | g
  ·rw [Lib.nDigits_small g]; omega
  ·rw [Lib.nDigits_big (by omega)]
   have := nd_le k (u / 10) (by rw [Nat.div_lt_iff_lt_mul (by decide)]; rw [Nat.pow_succ] at h; exact h)
   omega
theorem ten_nat (n : Nat) : ((10 ^ n : Nat) : Rat) = (10 : Rat) ^ (n : Int) := by rw [Rat.zpow_natCast]; push_cast; rfl
theorem safe_app {A B : List UInt8} (hA : ∀ c ∈ A, lo c ≠ 120) (hB : ∀ c ∈ B, lo c ≠ 120) : ∀ c ∈ A ++ B, lo c ≠ 120 := by
 intro c hc
 rcases List.mem_append.1 hc with hc | hc
 ·exact hA c hc
 ·exact hB c hc
theorem safe_digs {A : List UInt8} (h : Digs A) : ∀ c ∈ A, lo c ≠ 120 := fun c hc => (h c hc).lo.1
theorem safe_cons {a : UInt8} {A : List UInt8} (h : lo a ≠ 120) (hA : ∀ c ∈ A, lo c ≠ 120) : ∀ c ∈ a :: A, lo c ≠ 120 := by
 intro c hc
 rcases List.mem_cons.1 hc with rfl | hc
 ·exact h
 ·exact hA c hc
theorem zeros_digs (n : Nat) : Digs (List.replicate n 48) := by
 intro c hc
 rw [(List.mem_replicate.1 hc).2]
 exact ⟨0, by decide, rfl⟩
theorem fmtG_at {k : Nat} {q : Int} (neg : Bool) (d : Nat) (p : Int) (h : Inn k q ((d : Rat) * (10 : Rat) ^ p)) (hd : 1 <= d) (hd2 : d < 10 ^ 19) (hp1 : -360 <= p) (hp2 : p <= 360) :
  atofP (fmtG neg d p) = some (Ieee.double.word neg (rung k q), (fmtG neg d p).length) := by
 obtain ⟨hS, hv⟩ := dec_digs d
 have hN := Lib.decDigits_length d
 have hN18 := nd_le 18 d hd2
 have hnd := nzd_le (Lib.decDigits d)
 have hnp := nzd_pos hd
 have hD := nzd_digs hS
 have hval := nzd_val (Lib.decDigits d)
 unfold fmtG
 dsimp only
 obtain ⟨S, hSe⟩ : ∃ S, Lib.decDigits d = S := ⟨_, rfl⟩
 obtain ⟨N, hNe⟩ : ∃ N, Lib.nDigits d = N := ⟨_, rfl⟩
 obtain ⟨nd, hnde⟩ : ∃ nd, nzd S = nd := ⟨_, rfl⟩
 obtain ⟨D, hDe⟩ : ∃ D, S.take nd = D := ⟨_, rfl⟩
 obtain ⟨dp, hdp⟩ : ∃ dp, (N : Int) + p = dp := ⟨_, rfl⟩
 rw [hSe] at hS hv hN hnd hnp hD hval ⊢
 rw [hNe] at hN hN18 ⊢
 rw [hnde] at hnd hnp hD hval ⊢
 rw [hDe] at hD hval
 rw [hdp]
 rw [hv, hN] at hval
 have hDl : D.length = nd := by rw [<- hDe, List.length_take]; omega
 have hM0 : valD D ≠ 0 := by intro h0; rw [h0, Nat.zero_mul] at hval; omega
 have hM19 : valD D < 10 ^ 19 := by
  have h1 := val_lt D hD
  have h2 : 10 ^ D.length <= 10 ^ 19 := Nat.pow_le_pow_right (by decide) (by omega)
  omega
 have hDne : D ≠ [] := by intro h0; rw [h0] at hDl; simp at hDl; omega
 obtain ⟨c, r, hcr⟩ : ∃ c r, D = c :: r := by
  cases D with
  | nil => exact absurd rfl hDne
  | cons c r => exact ⟨c, r, rfl⟩
 have hc : Dig c := hD c (by rw [hcr]; exact List.mem_cons_self ..)
 have hy : (d : Rat) * (10 : Rat) ^ p = (valD D : Rat) * (10 : Rat) ^ (dp - nd) := by
  have e1 : (d : Rat) = (valD D : Rat) * (10 : Rat) ^ ((N - nd : Nat) : Int) := by
   rw [<- ten_nat]; exact_mod_cast hval
  rw [e1, Rat.mul_assoc, <- Rat.zpow_add (by decide)]
  congr 2
  omega
 by_cases hE : dp - 1 < -4 \/ 6 <= dp - 1
 ·rw [if_pos hE]
  have hx : (dp - 1).natAbs < 1000 := by omega
  have hS1 : S.take 1 = D.take 1 := by rw [<- hDe, List.take_take]; congr 1; omega
  unfold fmtE
  rw [hDe, hS1]
  by_cases h1 : 1 < nd
  ·rw [if_pos h1]
   have e : sgnB neg ++ D.take 1 ++ (46 :: D.drop 1) ++ [101] ++ expo (dp - 1) = sgnB neg ++ ((D.take 1 ++ 46 :: D.drop 1) ++ 101 :: expo (dp - 1)) := by simp
   rw [e]
   have hI : Digs (D.take 1) := fun c hc => hD c (List.mem_of_mem_take hc)
   have hF : Digs (D.drop 1) := fun c hc => hD c (List.mem_of_mem_drop hc)
   have hFl : (D.drop 1).length = nd - 1 := by rw [List.length_drop, hDl]
   have hmr := mr_frac hI hF (by rw [hcr]; simp) (by rw [List.length_take, hFl]; omega)
   rw [List.take_append_drop, hFl] at hmr
   refine atof_at h neg _ _ (valD D) _ (dp - 1) hmr ⟨c, 46 :: D.drop 1, by rw [hcr]; rfl, hc⟩ (safe_app (safe_app (safe_digs hI) (safe_cons (by decide) (safe_digs hF))) (safe_e _ hx)) (stop_e _) (expR_at _ hx) hM0 hM19 ?_
   rw [hy]; congr 2; omega
  ·rw [if_neg h1]
   have hn1 : nd = 1 := by omega
   have hD1 : D.take 1 = D := List.take_of_length_le (by omega)
   rw [hD1]
   have e : sgnB neg ++ D ++ [] ++ [101] ++ expo (dp - 1) = sgnB neg ++ (D ++ 101 :: expo (dp - 1)) := by simp
   rw [e]
   refine atof_at h neg _ _ (valD D) 0 (dp - 1) (mr_int hD hDne (by omega)) ⟨c, r, hcr, hc⟩ (safe_app (safe_digs hD) (safe_e _ hx)) (stop_e _) (expR_at _ hx) hM0 hM19 ?_
   rw [hy]; congr 2; omega
 ·rw [if_neg hE]
  have hx0 : expR false false [] = some (0, false, ([] : List UInt8).length) := rfl
  have hs0 : ∀ s, runR false s [] = (s, 0) := fun _ => rfl
  unfold fmtF
  rw [hDe]
  by_cases h0 : 0 < dp
  ·rw [if_pos h0]
   by_cases h1 : dp < nd
   ·rw [if_pos h1]
    have hSt : S.take (min nd dp.toNat) = D.take dp.toNat := by rw [<- hDe, List.take_take]; congr 1; omega
    rw [hSt, show dp.toNat - nd = 0 from by omega, show (-dp).toNat = 0 from by omega]
    have e : sgnB neg ++ (D.take dp.toNat ++ List.replicate 0 48) ++ 46 :: (List.replicate 0 48 ++ D.drop dp.toNat) = sgnB neg ++ ((D.take dp.toNat ++ 46 :: D.drop dp.toNat) ++ []) := by simp
    rw [e]
    have hI : Digs (D.take dp.toNat) := fun c hc => hD c (List.mem_of_mem_take hc)
    have hF : Digs (D.drop dp.toNat) := fun c hc => hD c (List.mem_of_mem_drop hc)
    have hFl : (D.drop dp.toNat).length = nd - dp.toNat := by rw [List.length_drop, hDl]
    obtain ⟨n, hn⟩ : ∃ n, dp.toNat = n + 1 := ⟨dp.toNat - 1, by omega⟩
    have hmr := mr_frac hI hF (by rw [hcr, hn]; simp) (by rw [List.length_take, hFl]; omega)
    rw [List.take_append_drop, hFl] at hmr
    refine atof_at h neg _ _ (valD D) _ 0 hmr ⟨c, r.take n ++ 46 :: D.drop dp.toNat, by rw [hcr, hn]; simp, hc⟩ (safe_app (safe_app (safe_digs hI) (safe_cons (by decide) (safe_digs hF))) (fun c hc => by cases hc)) hs0 hx0 hM0 hM19 ?_
    rw [hy]; congr 2; omega
   ·rw [if_neg h1]
    have hSt : S.take (min nd dp.toNat) = D := by rw [<- hDe]; congr 1; omega
    rw [hSt]
    obtain ⟨z, hz⟩ : ∃ z, dp.toNat - nd = z := ⟨_, rfl⟩
    rw [hz]
    have e : sgnB neg ++ (D ++ List.replicate z 48) ++ [] = sgnB neg ++ ((D ++ List.replicate z 48) ++ []) := by simp
    rw [e]
    have hI : Digs (D ++ List.replicate z 48) := by
     intro c hc
     rcases List.mem_append.1 hc with hc | hc
     ·exact hD c hc
     ·exact zeros_digs z c hc
    have hlen : (D ++ List.replicate z 48).length <= 19 := by rw [List.length_append, List.length_replicate]; omega
    have hvz : valD (D ++ List.replicate z 48) = valD D * 10 ^ z := by rw [val_append, val_zeros, List.length_replicate, Nat.add_zero]
    have hmr := mr_int hI (by rw [hcr]; simp) hlen
    have hlt := val_lt _ hI
    have hpw : 10 ^ (D ++ List.replicate z 48).length <= 10 ^ 19 := Nat.pow_le_pow_right (by decide) hlen
    refine atof_at h neg _ _ _ 0 0 hmr ⟨c, r ++ List.replicate z 48, by rw [hcr]; rfl, hc⟩ (safe_app (safe_digs hI) (fun c hc => by cases hc)) hs0 hx0 ?_ (Nat.lt_of_lt_of_le hlt hpw) ?_
    ·rw [hvz]; exact Nat.mul_ne_zero hM0 (Nat.ne_of_gt (Nat.pow_pos (by decide)))
    ·rw [hy, hvz, show (0 : Int) + 0 = 0 from rfl, Rat.zpow_zero, Rat.mul_one]
     have : dp - (nd : Int) = (z : Int) := by omega
     rw [this, <- ten_nat]; push_cast; rfl
  ·rw [if_neg h0, if_pos (show dp < nd by omega), show dp.toNat = 0 from by omega, List.drop_zero]
   obtain ⟨z, hz⟩ : ∃ z, (-dp).toNat = z := ⟨_, rfl⟩
   rw [hz]
   have e : sgnB neg ++ [48] ++ 46 :: (List.replicate z 48 ++ D) = sgnB neg ++ ((48 :: 46 :: (List.replicate z 48 ++ D)) ++ []) := by simp
   rw [e]
   refine atof_at h neg _ _ _ _ 0 (mr_small z hD (by omega)) ⟨48, _, rfl, ⟨0, by decide, rfl⟩⟩ (safe_app (safe_cons (by decide) (safe_cons (by decide) (safe_app (safe_digs (zeros_digs z)) (safe_digs hD)))) (fun c hc => by cases hc)) hs0 hx0 hM0 hM19 ?_
   rw [hy]; congr 2; omega
theorem neg_of (X : Nat) (hX : X < 18446744073709551616) : ((X : Int) / 9223372036854775808 != 0) = decide (9223372036854775808 <= X) := by
 by_cases h : 9223372036854775808 <= X
 ·rw [decide_eq_true h, bne_iff_ne]; omega
 ·rw [decide_eq_false h]
  have : (X : Int) / 9223372036854775808 = 0 := by omega
  rw [this]; rfl
theorem word_of (X k : Nat) (q : Int) (hX : X < 18446744073709551616) (h : rung k q = X % 9223372036854775808) : Ieee.double.word (decide (9223372036854775808 <= X)) (rung k q) = X := by
 have hs : Ieee.double.signWeight = 9223372036854775808 := by decide
 unfold Ieee.Format.word
 rw [hs, h]
 by_cases g : 9223372036854775808 <= X
 ·rw [decide_eq_true g]; simp only [if_true]; omega
 ·rw [decide_eq_false g]; simp only [Bool.false_eq_true, if_false]; omega
theorem pf_of {l : List UInt8} {x : Nat} (h : atofP l = some (x, l.length)) : pfP l = some x := by
 unfold pfP
 rw [h]
 simp
theorem round (X : Nat) (h : VN X) : pfP (fmtT X) = some X := by
 have hX := h.lt
 have hnn : X / 4503599627370496 % 2048 = 2047 -> X % 4503599627370496 ≠ 0 -> X = nanW := by
  intro h1 h2
  rcases h with h | h
  ·exfalso
   have := nn_le
   have h3 := h.1
   have hm : NN (X % 9223372036854775808) := by
    unfold NN Ieee.Format.read at h3 ⊢
    have hs : Ieee.double.signWeight = 9223372036854775808 := by decide
    simp only [hs, Nat.mod_mod] at h3 ⊢
    revert h3
    generalize (X / 9223372036854775808 % 2 == 1) = a
    generalize (X % 9223372036854775808 / 9223372036854775808 % 2 == 1) = b
    split
    ·intro _; rfl
    ·split
     ·intro _; rfl
     ·split
      ·intro _; rfl
      ·intro h; exact h
   have h4 := nn_le _ hm (by omega)
   have hi : Ieee.double.infRung = 9218868437227405312 := by decide
   rw [hi] at h4
   omega
  ·exact h
 unfold fmtT
 rw [neg_of X hX]
 dsimp only
 by_cases h1 : X / 4503599627370496 % 2048 = 2047
 ·rw [if_pos h1]
  by_cases h2 : X % 4503599627370496 = 0
  ·rw [if_pos h2]
   by_cases g : 9223372036854775808 <= X
   ·have hx : X = 18442240474082181120 := by omega
    subst hx
    decide +kernel
   ·have hx : X = 9218868437227405312 := by omega
    subst hx
    decide +kernel
  ·rw [if_neg h2]
   have := hnn h1 h2
   rw [this]
   decide +kernel
 ·rw [if_neg h1]
  by_cases h0 : X / 4503599627370496 % 2048 = 0
  ·rw [if_pos h0]
   by_cases h2 : X % 4503599627370496 = 0
   ·rw [if_pos h2]
    by_cases g : 9223372036854775808 <= X
    ·have hx : X = 9223372036854775808 := by omega
     subst hx
     decide +kernel
    ·have hx : X = 0 := by omega
     subst hx
     decide +kernel
   ·rw [if_neg h2]
    obtain ⟨M, hM⟩ : ∃ M, X % 4503599627370496 = M := ⟨_, rfl⟩
    rw [hM]
    obtain ⟨b1, b2, x1, x2, hz⟩ := den_facts M (by omega) (by omega)
    have hbd := shortN_bd (M * 2 ^ (64 - blen M)) (-1074 - (64 - (blen M : Int))) x1 x2 (by rw [hz]; exact Nat.mul_mod_left _ _) (by omega) (by omega)
    have hin := short_inn M (64 - blen M) (M * 2 ^ (64 - blen M)) (-1074) (-1074 - (64 - (blen M : Int))) (by omega) (by omega) (by omega) (by omega) (.inr rfl) hz (by omega) (by omega) rfl x1 x2
    refine pf_of ((fmtG_at _ _ _ hin (by omega) (by omega) (by omega) (by omega)).trans ?_)
    rw [word_of X M (-1074) hX (by unfold rung; omega)]
  ·rw [if_neg h0]
   obtain ⟨M, hM⟩ : ∃ M, X % 4503599627370496 = M := ⟨_, rfl⟩
   obtain ⟨E, hE⟩ : ∃ E, X / 4503599627370496 % 2048 = E := ⟨_, rfl⟩
   rw [hM, hE]
   have hz : zOf ((E : Int) - 1086) = 11 := by unfold zOf; omega
   have hbd := shortN_bd ((M + 4503599627370496) * 2048) ((E : Int) - 1086) (by omega) (by omega) (by rw [hz]; omega) (by omega) (by omega)
   have hin := short_inn (M + 4503599627370496) 11 ((M + 4503599627370496) * 2048) ((E : Int) - 1075) ((E : Int) - 1086) (by omega) (by omega) (by omega) (by omega) (.inl (by omega)) hz (by omega) (by omega) rfl (by omega) (by omega)
   refine pf_of ((fmtG_at _ _ _ hin (by omega) (by omega) (by omega) (by omega)).trans ?_)
   rw [word_of X (M + 4503599627370496) ((E : Int) - 1075) hX (by unfold rung; omega)]
end Go.Proofs.YtdfolbmoohcblaaGreatDoor
namespace Go.Proofs.YtdfolbmoohcblaaGreatDoor
def nc (c : UInt8) : Bool := !inCl c && c != 40 && c != 41 && c != 44 && decide (c.toNat < 128)
theorem Dig.nc {c : UInt8} (h : Dig c) : nc c = true := by
 obtain ⟨i, hi, rfl⟩ := h
 rcases (show i = 0 \/ i = 1 \/ i = 2 \/ i = 3 \/ i = 4 \/ i = 5 \/ i = 6 \/ i = 7 \/ i = 8 \/ i = 9 by omega) with rfl | rfl | rfl | rfl | rfl | rfl | rfl | rfl | rfl | rfl <;> decide
def Ncs (l : List UInt8) : Prop := ∀ c ∈ l, nc c = true
theorem Ncs.app {a b : List UInt8} (ha : Ncs a) (hb : Ncs b) : Ncs (a ++ b) := by
 intro c hc
 rcases List.mem_append.1 hc with hc | hc
 ·exact ha c hc
 ·exact hb c hc
theorem Ncs.cons {x : UInt8} {b : List UInt8} (ha : nc x = true) (hb : Ncs b) : Ncs (x :: b) := by
 intro c hc
 rcases List.mem_cons.1 hc with rfl | hc
 ·exact ha
 ·exact hb c hc
theorem Ncs.nil : Ncs [] := fun c hc => by cases hc
theorem Digs.ncs {l : List UInt8} (h : Digs l) : Ncs l := fun c hc => (h c hc).nc
theorem sgnB_ncs (neg : Bool) : Ncs (sgnB neg) := by
 unfold sgnB
 cases neg
 ·exact Ncs.nil
 ·exact Ncs.cons (by decide) Ncs.nil
theorem expo_ncs (x : Int) (h : x.natAbs < 1000) : Ncs (expo x) := by
 rw [expo_eq]
 refine Ncs.cons ?_ (expoD_at _ h).1.ncs
 unfold expS; split <;> decide
theorem fmtG_ncs (neg : Bool) (d : Nat) (p : Int) (hd : 1 <= d) (hd2 : d < 10 ^ 19) (h1 : -360 <= p) (h2 : p <= 360) : Ncs (fmtG neg d p) /\ fmtG neg d p ≠ [] /\ (fmtG neg d p).length <= 60 := by
 obtain ⟨hS, -⟩ := dec_digs d
 have hN := Lib.decDigits_length d
 have hN19 := nd_le 18 d hd2
 have hnd := nzd_le (Lib.decDigits d)
 have hnp := nzd_pos hd
 have tk : ∀ n, Digs ((Lib.decDigits d).take n) := fun n c hc => hS c (List.mem_of_mem_take hc)
 have td : ∀ n m, Digs (((Lib.decDigits d).take n).drop m) := fun n m c hc => tk n c (List.mem_of_mem_drop hc)
 unfold fmtG
 dsimp only
 split
 ·unfold fmtE
  have hx : ((Lib.nDigits d : Int) + p - 1).natAbs < 1000 := by omega
  have he := expoD_at _ hx
  refine ⟨?_, by simp, ?_⟩
  ·refine ((((sgnB_ncs neg).app (tk 1).ncs).app ?_).app (Ncs.cons (by decide) Ncs.nil)).app (expo_ncs _ hx)
   split
   ·exact Ncs.cons (by decide) (td _ _).ncs
   ·exact Ncs.nil
  ·rw [expo_eq]
   have : (sgnB neg).length <= 1 := by unfold sgnB; split <;> simp
   have h3 := he.2.2.1
   simp only [List.length_append, List.length_cons, List.length_nil, List.length_take]
   split
   ·simp only [List.length_cons, List.length_drop, List.length_take]; omega
   ·simp only [List.length_nil]; omega
 ·rename_i hE
  unfold fmtF
  refine ⟨?_, ?_, ?_⟩
  ·refine ((sgnB_ncs neg).app ?_).app ?_
   ·split
    ·exact (tk _).ncs.app (zeros_digs _).ncs
    ·exact Ncs.cons (by decide) Ncs.nil
   ·split
    ·exact Ncs.cons (by decide) ((zeros_digs _).ncs.app (td _ _).ncs)
    ·exact Ncs.nil
  ·intro h
   have := congrArg List.length h
   simp only [List.length_append, List.length_nil] at this
   have h5 : (if 0 < (Lib.nDigits d : Int) + p then (Lib.decDigits d).take (min (nzd (Lib.decDigits d)) ((Lib.nDigits d : Int) + p).toNat) ++ List.replicate (((Lib.nDigits d : Int) + p).toNat - nzd (Lib.decDigits d)) (48 : UInt8) else [48]).length = 0 := by omega
   split at h5
   ·rw [List.length_append, List.length_take] at h5; omega
   ·simp at h5
  ·have : (sgnB neg).length <= 1 := by unfold sgnB; split <;> simp
   simp only [List.length_append]
   have h5 : (if 0 < (Lib.nDigits d : Int) + p then (Lib.decDigits d).take (min (nzd (Lib.decDigits d)) ((Lib.nDigits d : Int) + p).toNat) ++ List.replicate (((Lib.nDigits d : Int) + p).toNat - nzd (Lib.decDigits d)) (48 : UInt8) else [48]).length <= 25 := by
    split
    ·rw [List.length_append, List.length_take, List.length_replicate]; omega
    ·simp
   have h6 : (if (Lib.nDigits d : Int) + p < (nzd (Lib.decDigits d) : Nat) then (46 : UInt8) :: (List.replicate (-((Lib.nDigits d : Int) + p)).toNat 48 ++ ((Lib.decDigits d).take (nzd (Lib.decDigits d))).drop ((Lib.nDigits d : Int) + p).toNat) else []).length <= 30 := by
    split
    ·rw [List.length_cons, List.length_append, List.length_replicate, List.length_drop, List.length_take]; omega
    ·simp
   omega
theorem fmtT_ncs (X : Nat) : Ncs (fmtT X) /\ fmtT X ≠ [] /\ (fmtT X).length <= 60 := by
 unfold fmtT
 dsimp only
 split
 ·split
  ·split
   ·refine ⟨?_, by simp, by simp⟩
    intro c hc; simp at hc; rcases hc with rfl | rfl | rfl | rfl <;> decide
   ·refine ⟨?_, by simp, by simp⟩
    intro c hc; simp at hc; rcases hc with rfl | rfl | rfl | rfl <;> decide
  ·refine ⟨?_, by simp, by simp⟩
   intro c hc; simp at hc; rcases hc with rfl | rfl | rfl <;> decide
 ·split
  ·split
   ·split
    ·refine ⟨?_, by simp, by simp⟩
     intro c hc; simp at hc; rcases hc with rfl | rfl <;> decide
    ·refine ⟨?_, by simp, by simp⟩
     intro c hc; simp at hc; subst hc; decide
   ·rename_i h1
    obtain ⟨b1, b2, x1, x2, hz⟩ := den_facts (X % 4503599627370496) (by omega) (by omega)
    have hbd := shortN_bd (X % 4503599627370496 * 2 ^ (64 - blen (X % 4503599627370496))) (-1074 - (64 - (blen (X % 4503599627370496) : Int))) x1 x2 (by rw [hz]; exact Nat.mul_mod_left _ _) (by omega) (by omega)
    exact fmtG_ncs _ _ _ (by omega) (by omega) (by omega) (by omega)
  ·rename_i h1 h2
   have hz : zOf ((X / 4503599627370496 % 2048 : Nat) - 1086 : Int) = 11 := by unfold zOf; omega
   have hbd := shortN_bd ((X % 4503599627370496 + 4503599627370496) * 2048) ((X / 4503599627370496 % 2048 : Nat) - 1086 : Int) (by omega) (by omega) (by rw [hz]; omega) (by omega) (by omega)
   exact fmtG_ncs _ _ _ (by omega) (by omega) (by omega) (by omega)
end Go.Proofs.YtdfolbmoohcblaaGreatDoor
