/-
For FnReadAgain, part 8: W5a W5b.
-/
import Derived.Test.YtdfolbmoohcblaaGreatDoorM07
set_option linter.all false
namespace Go.Proofs.YtdfolbmoohcblaaGreatDoor
set_option maxHeartbeats 1000000
set_option maxRecDepth 100000
open Go.RowKit
def low1 (c : UInt8) : UInt8 := if 65 <= c.toNat /\ c.toNat <= 90 then c + 32 else c
def cpl : List UInt8 -> List UInt8 -> Nat
 | a :: l, b :: p => if low1 a = b then cpl l p + 1 else 0
 | _, _ => 0
theorem cpl_step (l p : List UInt8) (k : Nat) (a b : UInt8) (ha : l[k]? = some a) (hb : p[k]? = some b) :
  cpl (l.drop k) (p.drop k) = if low1 a = b then cpl (l.drop (k + 1)) (p.drop (k + 1)) + 1 else 0 := by
 obtain ⟨h1, rfl⟩ := List.getElem?_eq_some_iff.1 ha
 obtain ⟨h2, rfl⟩ := List.getElem?_eq_some_iff.1 hb
 rw [List.drop_eq_getElem_cons h1, List.drop_eq_getElem_cons h2]; rfl
theorem cpl_end (l p : List UInt8) (k : Nat) (h : min p.length l.length <= k) : cpl (l.drop k) (p.drop k) = 0 := by
 by_cases h1 : l.length <= k
 ·rw [List.drop_eq_nil_of_le h1]; rfl
 ·rw [List.drop_eq_nil_of_le (show p.length <= k by omega)]; cases l.drop k <;> rfl
theorem cpl_le (l p : List UInt8) : cpl l p <= min l.length p.length := by
 induction l generalizing p with
 | nil => simp [cpl]
 | cons a l ih =>
  cases p with
  | nil => simp [cpl]
  | cons b p =>
   have := ih p
   simp only [cpl, List.length_cons]
   split <;> omega
theorem low1_yes {c : UInt8} (h1 : 65 <= (c.toNat : Int)) (h2 : (c.toNat : Int) <= 90) : ((low1 c).toNat : Int) = c.toNat + 32 := by
 unfold low1
 rw [if_pos (by omega)]
 rw [UInt8.toNat_add]
 show (((c.toNat + 32) % 256 : Nat) : Int) = _
 omega
theorem low1_no {c : UInt8} (h : ¬ (65 <= (c.toNat : Int) /\ (c.toNat : Int) <= 90)) : low1 c = c := by
 unfold low1; rw [if_neg (by omega)]
def CpRel (l p : List UInt8) (w : World) (i : Value) (wr : World) : Prop := ∃ k : Nat, k <= min p.length l.length /\ i = .int .i64 k /\ cpl l p = k + cpl (l.drop k) (p.drop k) /\ wr = w
theorem commonPrefix_any (s p : ByteArray) (w : World) (hs : s.size <= 1099511627776) (hp : p.size <= 1000) :
  Calls Tryz.prog 152 #[.string s, .string p] w fun e w' => e = .returned (.int .i64 (cpl (ls s) (ls p))) /\ w = w' := by
 have hg1 := Lib.hid (fun k h => ls_getElem? s k h)
 have hg2 := Lib.hid (fun k h => ls_getElem? p k h)
 go_enter Tryz.func152, Tryz.ntmps152
 go_wp2_with fail
 go_loopw [6] (fun i wr => CpRel (ls s) (ls p) w i wr) (fun i _ => p.size - (intOf i).toNat)
 case atStart => exact ⟨0, by omega, rfl, by simp, rfl⟩
 case round =>
  obtain ⟨k, hk, rfl, hcp, rfl⟩ := hrel
  rw [ls_length, ls_length] at hk
  have HC := Lib.hid hcp
  clear hcp
  by_cases hlt : k < min p.size s.size
  ·have hkp : k < p.size := by omega
   have hks : k < s.size := by omega
   have HS := Lib.hid (cpl_step (ls s) (ls p) k _ _ (hg1.out k hks) (hg2.out k hkp))
   have hk1 : k + 1 <= min (ls p).length (ls s).length := by rw [ls_length, ls_length]; omega
   have hlow : ((low1 s[k]).toNat : Int) = if 65 <= (s[k].toNat : Int) /\ (s[k].toNat : Int) <= 90 then (s[k].toNat : Int) + 32 else s[k].toNat := by
    split
    ·exact low1_yes (by omega) (by omega)
    ·rw [low1_no (by assumption)]
   have heq : low1 s[k] = p[k] ↔ ((low1 s[k]).toNat : Int) = p[k].toNat := by
    constructor
    ·intro h; rw [h]
    ·intro h; exact UInt8.toNat_inj.1 (by omega)
   by_cases hup : 65 <= (s[k].toNat : Int) /\ (s[k].toNat : Int) <= 90
   ·rw [if_pos hup] at hlow
    by_cases hq : low1 s[k] = p[k]
    ·have hb : ((s[k].toNat : Int) + 32 != (p[k].toNat : Int)) = false := by
      rw [heq, hlow] at hq
      rw [bne_eq_false_iff_eq]; exact hq
     have HR := Lib.hid (show CpRel (ls s) (ls p) wr (.int .i64 (k + 1 : Int)) wr from ⟨k + 1, hk1, rfl, by rw [HC.out, HS.out, if_pos hq]; omega, rfl⟩)
     clear hq hlow heq hk1
     go_wp2_with fail
     all_goals (go_roundw; (case rel => exact HR.out); (case measure => simp [intOf]; omega))
    ·have hb : ((s[k].toNat : Int) + 32 != (p[k].toNat : Int)) = true := by
      rw [heq, hlow] at hq
      rw [bne_iff_ne]; exact hq
     have HR := Lib.hid (show cpl (ls s) (ls p) = k by rw [HC.out, HS.out, if_neg hq]; omega)
     clear hq hlow heq hk1
     go_wp2_with fail
     all_goals (go_returns; exact ⟨ret_int (by rw [HR.out]), rfl⟩)
   ·rw [if_neg hup] at hlow
    by_cases hq : low1 s[k] = p[k]
    ·have hb : ((s[k].toNat : Int) != (p[k].toNat : Int)) = false := by
      rw [heq, hlow] at hq
      rw [bne_eq_false_iff_eq]; exact hq
     have HR := Lib.hid (show CpRel (ls s) (ls p) wr (.int .i64 (k + 1 : Int)) wr from ⟨k + 1, hk1, rfl, by rw [HC.out, HS.out, if_pos hq]; omega, rfl⟩)
     clear hq hlow heq hk1
     go_wp2_with fail
     all_goals (go_roundw; (case rel => exact HR.out); (case measure => simp [intOf]; omega))
    ·have hb : ((s[k].toNat : Int) != (p[k].toNat : Int)) = true := by
      rw [heq, hlow] at hq
      rw [bne_iff_ne]; exact hq
     have HR := Lib.hid (show cpl (ls s) (ls p) = k by rw [HC.out, HS.out, if_neg hq]; omega)
     clear hq hlow heq hk1
     go_wp2_with fail
     all_goals (go_returns; exact ⟨ret_int (by rw [HR.out]), rfl⟩)
  ·have HR := Lib.hid (show cpl (ls s) (ls p) = k by rw [HC.out, cpl_end _ _ _ (by rw [ls_length, ls_length]; omega)]; omega)
   have hmin : min (p.size : Int) s.size = k := by omega
   go_wp2_with fail
   go_returns
   exact ⟨ret_int (by rw [HR.out]; omega), rfl⟩
def infW (neg : Bool) : Nat := if neg then 18442240474082181120 else 9218868437227405312
def nanW : Nat := 9221120237041090561
theorem inf_any (neg : Bool) (w : World) : Calls Tryz.prog 153 #[.int .i64 (if neg then -1 else 1)] w fun e w' => e = .returned (.float .f64 (infW neg)) /\ w = w' := by
 have hfb := fun n => run_frombits n
 cases neg <;> (go_enter Tryz.func153, Tryz.ntmps153; go_wp2_with fail; go_returns; exact ⟨rfl, rfl⟩)
theorem nan_any (w : World) : Calls Tryz.prog 154 #[] w fun e w' => e = .returned (.float .f64 nanW) /\ w = w' := by
 have hfb := fun n => run_frombits n
 go_enter Tryz.func154, Tryz.ntmps154
 go_wp2_with fail
 go_returns
 exact ⟨rfl, rfl⟩
def txInf : List UInt8 := [105, 110, 102, 105, 110, 105, 116, 121]
def txNan : List UInt8 := [110, 97, 110]
def spn (l : List UInt8) : Nat := if 3 < cpl l txInf /\ cpl l txInf < 8 then 3 else cpl l txInf
def specialN (l : List UInt8) : Option (Nat × Nat) :=
 match l with
 | [] => none
 | c :: r =>
  if c = 43 \/ c = 45 then (if spn r = 3 \/ spn r = 8 then some (infW (c == 45), 1 + spn r) else none)
  else if c = 105 \/ c = 73 then (if spn (c :: r) = 3 \/ spn (c :: r) = 8 then some (infW false, spn (c :: r)) else none)
  else if c = 110 \/ c = 78 then (if cpl (c :: r) txNan = 3 then some (nanW, 3) else none)
  else none
def SpecialPost (l : List UInt8) (w : World) (e' : Ending) (w' : World) : Prop :=
 w = w' /\ match specialN l with
  | none => e' = .returned (.tuple #[.float .f64 0, .int .i64 0, .bool false])
  | some (x, n) => e' = .returned (.tuple #[.float .f64 x, .int .i64 n, .bool true])
theorem ls_cons0 (s : ByteArray) (h : 0 < s.size) : ls s = s[0] :: ls (s.extract 1 s.size) := by
 rw [ls_extract, List.take_of_length_le (by simp [ls_length])]
 have := ls_getElem? s 0 h
 cases hl : ls s with
 | nil => rw [hl] at this; cases this
 | cons a r => rw [hl] at this; simp at this; rw [this]; rfl
theorem int_ne' {a : UInt8} {n : Nat} (hn : n < 256) (h : a ≠ UInt8.ofNat n) : ((a.toNat : Int) == (n : Int)) = false := by
 rw [beq_eq_false_iff_ne]
 intro e
 apply h
 apply UInt8.toNat_inj.1
 rw [UInt8.toNat_ofNat']; omega
theorem int_eq' {a : UInt8} {n : Nat} (hn : n < 256) (h : a = UInt8.ofNat n) : ((a.toNat : Int) == (n : Int)) = true := by
 rw [beq_iff_eq, h, UInt8.toNat_ofNat']; omega
theorem special_plus (s : ByteArray) (w : World) (hs : s.size <= 1099511627776) (h0 : 0 < s.size) (hc : s[0] = 43) :
  Calls Tryz.prog 133 #[.string s] w (SpecialPost (ls s) w) := by
 have hl := ls_cons0 s h0
 have n43 : ((s[0].toNat : Int) == 43) = true := by rw [hc]; decide
 have n45 : ((s[0].toNat : Int) == 45) = false := by rw [hc]; decide
 have n105 : ((s[0].toNat : Int) == 105) = false := by rw [hc]; decide
 have n73 : ((s[0].toNat : Int) == 73) = false := by rw [hc]; decide
 have n110 : ((s[0].toNat : Int) == 110) = false := by rw [hc]; decide
 have n78 : ((s[0].toNat : Int) == 78) = false := by rw [hc]; decide
 have HC := Lib.hid (And.intro hl hc)
 clear hl hc
 have hcp := fun w => commonPrefix_any (s.extract 1 s.size) ⟨#[105, 110, 102, 105, 110, 105, 116, 121]⟩ w (by rw [ByteArray.size_extract]; omega) (by decide)
 have hin := fun w => inf_any false w
 obtain ⟨n, hn⟩ : ∃ n, cpl (ls (s.extract 1 s.size)) txInf = n := ⟨_, rfl⟩
 have hcp2 : ∀ w, Calls Tryz.prog 152 #[.string (s.extract 1 s.size), .string ⟨#[105, 110, 102, 105, 110, 105, 116, 121]⟩] w fun e w' => e = .returned (.int .i64 n) /\ w = w' := fun w => hn ▸ hcp w
 clear hcp
 have hn8 : n <= 8 := by have := cpl_le (ls (s.extract 1 s.size)) txInf; rw [hn] at this; exact Nat.le_trans this (Nat.min_le_right _ _)
 have HN := Lib.hid hn
 clear hn
 by_cases hm : 3 < n /\ n < 8
 ·have hspn : spn (ls (s.extract 1 s.size)) = 3 := by unfold spn; rw [HN.out]; rw [if_pos hm]
  have hres : specialN (ls s) = some (infW false, 1 + 3) := by
   unfold specialN; rw [HC.out.1]; simp only []; rw [if_pos (by rw [HC.out.2]; decide)]
   rw [hspn, if_pos (by omega)]; rw [HC.out.2]; rfl
  have HR := Lib.hid hres
  clear hres hspn
  go_enter Tryz.func133, Tryz.ntmps133
  go_wp2_with ((first | (go_at_call 152; refine (hcp2 _).mono ?_) | (go_at_call 153; refine (hin _).mono ?_)); rintro e w' ⟨rfl, rfl⟩)
  all_goals (go_returns; refine ⟨rfl, ?_⟩; rw [HR.out]; rfl)
 ·by_cases h3 : n = 3 \/ n = 8
  ·rcases h3 with rfl | rfl
   ·have hspn : spn (ls (s.extract 1 s.size)) = 3 := by unfold spn; rw [HN.out]; rw [if_neg hm]
    have hres : specialN (ls s) = some (infW false, 1 + 3) := by
     unfold specialN; rw [HC.out.1]; simp only []; rw [if_pos (by rw [HC.out.2]; decide)]
     rw [hspn, if_pos (by omega)]; rw [HC.out.2]; rfl
    have HR := Lib.hid hres
    clear hres hspn
    go_enter Tryz.func133, Tryz.ntmps133
    go_wp2_with ((first | (go_at_call 152; refine (hcp2 _).mono ?_) | (go_at_call 153; refine (hin _).mono ?_)); rintro e w' ⟨rfl, rfl⟩)
    all_goals (go_returns; refine ⟨rfl, ?_⟩; rw [HR.out]; rfl)
   ·have hspn : spn (ls (s.extract 1 s.size)) = 8 := by unfold spn; rw [HN.out]; rw [if_neg hm]
    have hres : specialN (ls s) = some (infW false, 1 + 8) := by
     unfold specialN; rw [HC.out.1]; simp only []; rw [if_pos (by rw [HC.out.2]; decide)]
     rw [hspn, if_pos (by omega)]; rw [HC.out.2]; rfl
    have HR := Lib.hid hres
    clear hres hspn
    go_enter Tryz.func133, Tryz.ntmps133
    go_wp2_with ((first | (go_at_call 152; refine (hcp2 _).mono ?_) | (go_at_call 153; refine (hin _).mono ?_)); rintro e w' ⟨rfl, rfl⟩)
    all_goals (go_returns; refine ⟨rfl, ?_⟩; rw [HR.out]; rfl)
  ·have b3 : ((n : Int) == 3) = false := by rw [beq_eq_false_iff_ne]; omega
   have b8 : ((n : Int) == 8) = false := by rw [beq_eq_false_iff_ne]; omega
   have hspn : spn (ls (s.extract 1 s.size)) = n := by unfold spn; rw [HN.out]; rw [if_neg hm]
   have hres : specialN (ls s) = none := by
    unfold specialN; rw [HC.out.1]; simp only []; rw [if_pos (by rw [HC.out.2]; decide)]
    rw [hspn, if_neg (by omega)]
   have HR := Lib.hid hres
   clear hres hspn
   clear h3
   go_enter Tryz.func133, Tryz.ntmps133
   go_wp2_with ((first | (go_at_call 152; refine (hcp2 _).mono ?_) | (go_at_call 153; refine (hin _).mono ?_)); rintro e w' ⟨rfl, rfl⟩)
   all_goals (go_returns; refine ⟨rfl, ?_⟩; rw [HR.out]; rfl)
theorem special_minus (s : ByteArray) (w : World) (hs : s.size <= 1099511627776) (h0 : 0 < s.size) (hc : s[0] = 45) :
  Calls Tryz.prog 133 #[.string s] w (SpecialPost (ls s) w) := by
 have hl := ls_cons0 s h0
 have n43 : ((s[0].toNat : Int) == 43) = false := by rw [hc]; decide
 have n45 : ((s[0].toNat : Int) == 45) = true := by rw [hc]; decide
 have n105 : ((s[0].toNat : Int) == 105) = false := by rw [hc]; decide
 have n73 : ((s[0].toNat : Int) == 73) = false := by rw [hc]; decide
 have n110 : ((s[0].toNat : Int) == 110) = false := by rw [hc]; decide
 have n78 : ((s[0].toNat : Int) == 78) = false := by rw [hc]; decide
 have HC := Lib.hid (And.intro hl hc)
 clear hl hc
 have hcp := fun w => commonPrefix_any (s.extract 1 s.size) ⟨#[105, 110, 102, 105, 110, 105, 116, 121]⟩ w (by rw [ByteArray.size_extract]; omega) (by decide)
 have hin := fun w => inf_any true w
 obtain ⟨n, hn⟩ : ∃ n, cpl (ls (s.extract 1 s.size)) txInf = n := ⟨_, rfl⟩
 have hcp2 : ∀ w, Calls Tryz.prog 152 #[.string (s.extract 1 s.size), .string ⟨#[105, 110, 102, 105, 110, 105, 116, 121]⟩] w fun e w' => e = .returned (.int .i64 n) /\ w = w' := fun w => hn ▸ hcp w
 clear hcp
 have hn8 : n <= 8 := by have := cpl_le (ls (s.extract 1 s.size)) txInf; rw [hn] at this; exact Nat.le_trans this (Nat.min_le_right _ _)
 have HN := Lib.hid hn
 clear hn
 by_cases hm : 3 < n /\ n < 8
 ·have hspn : spn (ls (s.extract 1 s.size)) = 3 := by unfold spn; rw [HN.out]; rw [if_pos hm]
  have hres : specialN (ls s) = some (infW true, 1 + 3) := by
   unfold specialN; rw [HC.out.1]; simp only []; rw [if_pos (by rw [HC.out.2]; decide)]
   rw [hspn, if_pos (by omega)]; rw [HC.out.2]; rfl
  have HR := Lib.hid hres
  clear hres hspn
  go_enter Tryz.func133, Tryz.ntmps133
  go_wp2_with ((first | (go_at_call 152; refine (hcp2 _).mono ?_) | (go_at_call 153; refine (hin _).mono ?_)); rintro e w' ⟨rfl, rfl⟩)
  all_goals (go_returns; refine ⟨rfl, ?_⟩; rw [HR.out]; rfl)
 ·by_cases h3 : n = 3 \/ n = 8
  ·rcases h3 with rfl | rfl
   ·have hspn : spn (ls (s.extract 1 s.size)) = 3 := by unfold spn; rw [HN.out]; rw [if_neg hm]
    have hres : specialN (ls s) = some (infW true, 1 + 3) := by
     unfold specialN; rw [HC.out.1]; simp only []; rw [if_pos (by rw [HC.out.2]; decide)]
     rw [hspn, if_pos (by omega)]; rw [HC.out.2]; rfl
    have HR := Lib.hid hres
    clear hres hspn
    go_enter Tryz.func133, Tryz.ntmps133
    go_wp2_with ((first | (go_at_call 152; refine (hcp2 _).mono ?_) | (go_at_call 153; refine (hin _).mono ?_)); rintro e w' ⟨rfl, rfl⟩)
    all_goals (go_returns; refine ⟨rfl, ?_⟩; rw [HR.out]; rfl)
   ·have hspn : spn (ls (s.extract 1 s.size)) = 8 := by unfold spn; rw [HN.out]; rw [if_neg hm]
    have hres : specialN (ls s) = some (infW true, 1 + 8) := by
     unfold specialN; rw [HC.out.1]; simp only []; rw [if_pos (by rw [HC.out.2]; decide)]
     rw [hspn, if_pos (by omega)]; rw [HC.out.2]; rfl
    have HR := Lib.hid hres
    clear hres hspn
    go_enter Tryz.func133, Tryz.ntmps133
    go_wp2_with ((first | (go_at_call 152; refine (hcp2 _).mono ?_) | (go_at_call 153; refine (hin _).mono ?_)); rintro e w' ⟨rfl, rfl⟩)
    all_goals (go_returns; refine ⟨rfl, ?_⟩; rw [HR.out]; rfl)
  ·have b3 : ((n : Int) == 3) = false := by rw [beq_eq_false_iff_ne]; omega
   have b8 : ((n : Int) == 8) = false := by rw [beq_eq_false_iff_ne]; omega
   have hspn : spn (ls (s.extract 1 s.size)) = n := by unfold spn; rw [HN.out]; rw [if_neg hm]
   have hres : specialN (ls s) = none := by
    unfold specialN; rw [HC.out.1]; simp only []; rw [if_pos (by rw [HC.out.2]; decide)]
    rw [hspn, if_neg (by omega)]
   have HR := Lib.hid hres
   clear hres hspn
   clear h3
   go_enter Tryz.func133, Tryz.ntmps133
   go_wp2_with ((first | (go_at_call 152; refine (hcp2 _).mono ?_) | (go_at_call 153; refine (hin _).mono ?_)); rintro e w' ⟨rfl, rfl⟩)
   all_goals (go_returns; refine ⟨rfl, ?_⟩; rw [HR.out]; rfl)
theorem special_i (s : ByteArray) (w : World) (hs : s.size <= 1099511627776) (h0 : 0 < s.size) (hc : s[0] = 105) :
  Calls Tryz.prog 133 #[.string s] w (SpecialPost (ls s) w) := by
 have hl := ls_cons0 s h0
 have n43 : ((s[0].toNat : Int) == 43) = false := by rw [hc]; decide
 have n45 : ((s[0].toNat : Int) == 45) = false := by rw [hc]; decide
 have n105 : ((s[0].toNat : Int) == 105) = true := by rw [hc]; decide
 have n73 : ((s[0].toNat : Int) == 73) = false := by rw [hc]; decide
 have n110 : ((s[0].toNat : Int) == 110) = false := by rw [hc]; decide
 have n78 : ((s[0].toNat : Int) == 78) = false := by rw [hc]; decide
 have HC := Lib.hid (And.intro hl hc)
 clear hl hc
 have hcp := fun w => commonPrefix_any s ⟨#[105, 110, 102, 105, 110, 105, 116, 121]⟩ w hs (by decide)
 have hin := fun w => inf_any false w
 obtain ⟨n, hn⟩ : ∃ n, cpl (ls s) txInf = n := ⟨_, rfl⟩
 have hcp2 : ∀ w, Calls Tryz.prog 152 #[.string s, .string ⟨#[105, 110, 102, 105, 110, 105, 116, 121]⟩] w fun e w' => e = .returned (.int .i64 n) /\ w = w' := fun w => hn ▸ hcp w
 clear hcp
 have hn8 : n <= 8 := by have := cpl_le (ls s) txInf; rw [hn] at this; exact Nat.le_trans this (Nat.min_le_right _ _)
 have HN := Lib.hid hn
 clear hn
 by_cases hm : 3 < n /\ n < 8
 ·have hspn : spn (ls s) = 3 := by unfold spn; rw [HN.out]; rw [if_pos hm]
  have hres : specialN (ls s) = some (infW false, 3) := by
   unfold specialN; rw [HC.out.1]; simp only []; rw [if_neg (by rw [HC.out.2]; decide), if_pos (by rw [HC.out.2]; decide), <- HC.out.1]
   rw [hspn, if_pos (by omega)]
  have HR := Lib.hid hres
  clear hres hspn
  go_enter Tryz.func133, Tryz.ntmps133
  go_wp2_with ((first | (go_at_call 152; refine (hcp2 _).mono ?_) | (go_at_call 153; refine (hin _).mono ?_)); rintro e w' ⟨rfl, rfl⟩)
  all_goals (go_returns; refine ⟨rfl, ?_⟩; rw [HR.out]; rfl)
 ·by_cases h3 : n = 3 \/ n = 8
  ·rcases h3 with rfl | rfl
   ·have hspn : spn (ls s) = 3 := by unfold spn; rw [HN.out]; rw [if_neg hm]
    have hres : specialN (ls s) = some (infW false, 3) := by
     unfold specialN; rw [HC.out.1]; simp only []; rw [if_neg (by rw [HC.out.2]; decide), if_pos (by rw [HC.out.2]; decide), <- HC.out.1]
     rw [hspn, if_pos (by omega)]
    have HR := Lib.hid hres
    clear hres hspn
    go_enter Tryz.func133, Tryz.ntmps133
    go_wp2_with ((first | (go_at_call 152; refine (hcp2 _).mono ?_) | (go_at_call 153; refine (hin _).mono ?_)); rintro e w' ⟨rfl, rfl⟩)
    all_goals (go_returns; refine ⟨rfl, ?_⟩; rw [HR.out]; rfl)
   ·have hspn : spn (ls s) = 8 := by unfold spn; rw [HN.out]; rw [if_neg hm]
    have hres : specialN (ls s) = some (infW false, 8) := by
     unfold specialN; rw [HC.out.1]; simp only []; rw [if_neg (by rw [HC.out.2]; decide), if_pos (by rw [HC.out.2]; decide), <- HC.out.1]
     rw [hspn, if_pos (by omega)]
    have HR := Lib.hid hres
    clear hres hspn
    go_enter Tryz.func133, Tryz.ntmps133
    go_wp2_with ((first | (go_at_call 152; refine (hcp2 _).mono ?_) | (go_at_call 153; refine (hin _).mono ?_)); rintro e w' ⟨rfl, rfl⟩)
    all_goals (go_returns; refine ⟨rfl, ?_⟩; rw [HR.out]; rfl)
  ·have b3 : ((n : Int) == 3) = false := by rw [beq_eq_false_iff_ne]; omega
   have b8 : ((n : Int) == 8) = false := by rw [beq_eq_false_iff_ne]; omega
   have hspn : spn (ls s) = n := by unfold spn; rw [HN.out]; rw [if_neg hm]
   have hres : specialN (ls s) = none := by
    unfold specialN; rw [HC.out.1]; simp only []; rw [if_neg (by rw [HC.out.2]; decide), if_pos (by rw [HC.out.2]; decide), <- HC.out.1]
    rw [hspn, if_neg (by omega)]
   have HR := Lib.hid hres
   clear hres hspn
   clear h3
   go_enter Tryz.func133, Tryz.ntmps133
   go_wp2_with ((first | (go_at_call 152; refine (hcp2 _).mono ?_) | (go_at_call 153; refine (hin _).mono ?_)); rintro e w' ⟨rfl, rfl⟩)
   all_goals (go_returns; refine ⟨rfl, ?_⟩; rw [HR.out]; rfl)
theorem special_I (s : ByteArray) (w : World) (hs : s.size <= 1099511627776) (h0 : 0 < s.size) (hc : s[0] = 73) :
  Calls Tryz.prog 133 #[.string s] w (SpecialPost (ls s) w) := by
 have hl := ls_cons0 s h0
 have n43 : ((s[0].toNat : Int) == 43) = false := by rw [hc]; decide
 have n45 : ((s[0].toNat : Int) == 45) = false := by rw [hc]; decide
 have n105 : ((s[0].toNat : Int) == 105) = false := by rw [hc]; decide
 have n73 : ((s[0].toNat : Int) == 73) = true := by rw [hc]; decide
 have n110 : ((s[0].toNat : Int) == 110) = false := by rw [hc]; decide
 have n78 : ((s[0].toNat : Int) == 78) = false := by rw [hc]; decide
 have HC := Lib.hid (And.intro hl hc)
 clear hl hc
 have hcp := fun w => commonPrefix_any s ⟨#[105, 110, 102, 105, 110, 105, 116, 121]⟩ w hs (by decide)
 have hin := fun w => inf_any false w
 obtain ⟨n, hn⟩ : ∃ n, cpl (ls s) txInf = n := ⟨_, rfl⟩
 have hcp2 : ∀ w, Calls Tryz.prog 152 #[.string s, .string ⟨#[105, 110, 102, 105, 110, 105, 116, 121]⟩] w fun e w' => e = .returned (.int .i64 n) /\ w = w' := fun w => hn ▸ hcp w
 clear hcp
 have hn8 : n <= 8 := by have := cpl_le (ls s) txInf; rw [hn] at this; exact Nat.le_trans this (Nat.min_le_right _ _)
 have HN := Lib.hid hn
 clear hn
 by_cases hm : 3 < n /\ n < 8
 ·have hspn : spn (ls s) = 3 := by unfold spn; rw [HN.out]; rw [if_pos hm]
  have hres : specialN (ls s) = some (infW false, 3) := by
   unfold specialN; rw [HC.out.1]; simp only []; rw [if_neg (by rw [HC.out.2]; decide), if_pos (by rw [HC.out.2]; decide), <- HC.out.1]
   rw [hspn, if_pos (by omega)]
  have HR := Lib.hid hres
  clear hres hspn
  go_enter Tryz.func133, Tryz.ntmps133
  go_wp2_with ((first | (go_at_call 152; refine (hcp2 _).mono ?_) | (go_at_call 153; refine (hin _).mono ?_)); rintro e w' ⟨rfl, rfl⟩)
  all_goals (go_returns; refine ⟨rfl, ?_⟩; rw [HR.out]; rfl)
 ·by_cases h3 : n = 3 \/ n = 8
  ·rcases h3 with rfl | rfl
   ·have hspn : spn (ls s) = 3 := by unfold spn; rw [HN.out]; rw [if_neg hm]
    have hres : specialN (ls s) = some (infW false, 3) := by
     unfold specialN; rw [HC.out.1]; simp only []; rw [if_neg (by rw [HC.out.2]; decide), if_pos (by rw [HC.out.2]; decide), <- HC.out.1]
     rw [hspn, if_pos (by omega)]
    have HR := Lib.hid hres
    clear hres hspn
    go_enter Tryz.func133, Tryz.ntmps133
    go_wp2_with ((first | (go_at_call 152; refine (hcp2 _).mono ?_) | (go_at_call 153; refine (hin _).mono ?_)); rintro e w' ⟨rfl, rfl⟩)
    all_goals (go_returns; refine ⟨rfl, ?_⟩; rw [HR.out]; rfl)
   ·have hspn : spn (ls s) = 8 := by unfold spn; rw [HN.out]; rw [if_neg hm]
    have hres : specialN (ls s) = some (infW false, 8) := by
     unfold specialN; rw [HC.out.1]; simp only []; rw [if_neg (by rw [HC.out.2]; decide), if_pos (by rw [HC.out.2]; decide), <- HC.out.1]
     rw [hspn, if_pos (by omega)]
    have HR := Lib.hid hres
    clear hres hspn
    go_enter Tryz.func133, Tryz.ntmps133
    go_wp2_with ((first | (go_at_call 152; refine (hcp2 _).mono ?_) | (go_at_call 153; refine (hin _).mono ?_)); rintro e w' ⟨rfl, rfl⟩)
    all_goals (go_returns; refine ⟨rfl, ?_⟩; rw [HR.out]; rfl)
  ·have b3 : ((n : Int) == 3) = false := by rw [beq_eq_false_iff_ne]; omega
   have b8 : ((n : Int) == 8) = false := by rw [beq_eq_false_iff_ne]; omega
   have hspn : spn (ls s) = n := by unfold spn; rw [HN.out]; rw [if_neg hm]
   have hres : specialN (ls s) = none := by
    unfold specialN; rw [HC.out.1]; simp only []; rw [if_neg (by rw [HC.out.2]; decide), if_pos (by rw [HC.out.2]; decide), <- HC.out.1]
    rw [hspn, if_neg (by omega)]
   have HR := Lib.hid hres
   clear hres hspn
   clear h3
   go_enter Tryz.func133, Tryz.ntmps133
   go_wp2_with ((first | (go_at_call 152; refine (hcp2 _).mono ?_) | (go_at_call 153; refine (hin _).mono ?_)); rintro e w' ⟨rfl, rfl⟩)
   all_goals (go_returns; refine ⟨rfl, ?_⟩; rw [HR.out]; rfl)
theorem special_n (s : ByteArray) (w : World) (hs : s.size <= 1099511627776) (h0 : 0 < s.size) (hc : s[0] = 110) :
  Calls Tryz.prog 133 #[.string s] w (SpecialPost (ls s) w) := by
 have hl := ls_cons0 s h0
 have n43 : ((s[0].toNat : Int) == 43) = false := by rw [hc]; decide
 have n45 : ((s[0].toNat : Int) == 45) = false := by rw [hc]; decide
 have n105 : ((s[0].toNat : Int) == 105) = false := by rw [hc]; decide
 have n73 : ((s[0].toNat : Int) == 73) = false := by rw [hc]; decide
 have n110 : ((s[0].toNat : Int) == 110) = true := by rw [hc]; decide
 have n78 : ((s[0].toNat : Int) == 78) = false := by rw [hc]; decide
 have HC := Lib.hid (And.intro hl hc)
 clear hl hc
 have hcp := fun w => commonPrefix_any s ⟨#[110, 97, 110]⟩ w hs (by decide)
 have hin := fun w => nan_any w
 obtain ⟨n, hn⟩ : ∃ n, cpl (ls s) txNan = n := ⟨_, rfl⟩
 have hcp2 : ∀ w, Calls Tryz.prog 152 #[.string s, .string ⟨#[110, 97, 110]⟩] w fun e w' => e = .returned (.int .i64 n) /\ w = w' := fun w => hn ▸ hcp w
 clear hcp
 have HN := Lib.hid hn
 clear hn
 by_cases h3 : n = 3
 ·have b3 : ((n : Int) == 3) = true := by rw [beq_iff_eq]; omega
  have hres : specialN (ls s) = some (nanW, 3) := by
   unfold specialN; rw [HC.out.1]; simp only []; rw [if_neg (by rw [HC.out.2]; decide), if_neg (by rw [HC.out.2]; decide), if_pos (by rw [HC.out.2]; decide), <- HC.out.1, HN.out, if_pos h3]
  have HR := Lib.hid hres
  clear hres h3
  go_enter Tryz.func133, Tryz.ntmps133
  go_wp2_with ((first | (go_at_call 152; refine (hcp2 _).mono ?_) | (go_at_call 154; refine (hin _).mono ?_)); rintro e w' ⟨rfl, rfl⟩)
  go_returns
  refine ⟨rfl, ?_⟩
  rw [HR.out]; rfl
 ·have b3 : ((n : Int) == 3) = false := by rw [beq_eq_false_iff_ne]; omega
  have hres : specialN (ls s) = none := by
   unfold specialN; rw [HC.out.1]; simp only []; rw [if_neg (by rw [HC.out.2]; decide), if_neg (by rw [HC.out.2]; decide), if_pos (by rw [HC.out.2]; decide), <- HC.out.1, HN.out, if_neg h3]
  have HR := Lib.hid hres
  clear hres h3
  go_enter Tryz.func133, Tryz.ntmps133
  go_wp2_with ((first | (go_at_call 152; refine (hcp2 _).mono ?_) | (go_at_call 154; refine (hin _).mono ?_)); rintro e w' ⟨rfl, rfl⟩)
  go_returns
  refine ⟨rfl, ?_⟩
  rw [HR.out]; rfl
theorem special_N (s : ByteArray) (w : World) (hs : s.size <= 1099511627776) (h0 : 0 < s.size) (hc : s[0] = 78) :
  Calls Tryz.prog 133 #[.string s] w (SpecialPost (ls s) w) := by
 have hl := ls_cons0 s h0
 have n43 : ((s[0].toNat : Int) == 43) = false := by rw [hc]; decide
 have n45 : ((s[0].toNat : Int) == 45) = false := by rw [hc]; decide
 have n105 : ((s[0].toNat : Int) == 105) = false := by rw [hc]; decide
 have n73 : ((s[0].toNat : Int) == 73) = false := by rw [hc]; decide
 have n110 : ((s[0].toNat : Int) == 110) = false := by rw [hc]; decide
 have n78 : ((s[0].toNat : Int) == 78) = true := by rw [hc]; decide
 have HC := Lib.hid (And.intro hl hc)
 clear hl hc
 have hcp := fun w => commonPrefix_any s ⟨#[110, 97, 110]⟩ w hs (by decide)
 have hin := fun w => nan_any w
 obtain ⟨n, hn⟩ : ∃ n, cpl (ls s) txNan = n := ⟨_, rfl⟩
 have hcp2 : ∀ w, Calls Tryz.prog 152 #[.string s, .string ⟨#[110, 97, 110]⟩] w fun e w' => e = .returned (.int .i64 n) /\ w = w' := fun w => hn ▸ hcp w
 clear hcp
 have HN := Lib.hid hn
 clear hn
 by_cases h3 : n = 3
 ·have b3 : ((n : Int) == 3) = true := by rw [beq_iff_eq]; omega
  have hres : specialN (ls s) = some (nanW, 3) := by
   unfold specialN; rw [HC.out.1]; simp only []; rw [if_neg (by rw [HC.out.2]; decide), if_neg (by rw [HC.out.2]; decide), if_pos (by rw [HC.out.2]; decide), <- HC.out.1, HN.out, if_pos h3]
  have HR := Lib.hid hres
  clear hres h3
  go_enter Tryz.func133, Tryz.ntmps133
  go_wp2_with ((first | (go_at_call 152; refine (hcp2 _).mono ?_) | (go_at_call 154; refine (hin _).mono ?_)); rintro e w' ⟨rfl, rfl⟩)
  go_returns
  refine ⟨rfl, ?_⟩
  rw [HR.out]; rfl
 ·have b3 : ((n : Int) == 3) = false := by rw [beq_eq_false_iff_ne]; omega
  have hres : specialN (ls s) = none := by
   unfold specialN; rw [HC.out.1]; simp only []; rw [if_neg (by rw [HC.out.2]; decide), if_neg (by rw [HC.out.2]; decide), if_pos (by rw [HC.out.2]; decide), <- HC.out.1, HN.out, if_neg h3]
  have HR := Lib.hid hres
  clear hres h3
  go_enter Tryz.func133, Tryz.ntmps133
  go_wp2_with ((first | (go_at_call 152; refine (hcp2 _).mono ?_) | (go_at_call 154; refine (hin _).mono ?_)); rintro e w' ⟨rfl, rfl⟩)
  go_returns
  refine ⟨rfl, ?_⟩
  rw [HR.out]; rfl
theorem special_other (s : ByteArray) (w : World) (hs : s.size <= 1099511627776) (h0 : 0 < s.size) (hc : s[0] ≠ 43 /\ s[0] ≠ 45 /\ s[0] ≠ 105 /\ s[0] ≠ 73 /\ s[0] ≠ 110 /\ s[0] ≠ 78) :
  Calls Tryz.prog 133 #[.string s] w (SpecialPost (ls s) w) := by
 have hl := ls_cons0 s h0
 have n43 : ((s[0].toNat : Int) == 43) = false := int_ne' (n := 43) (by decide) hc.1
 have n45 : ((s[0].toNat : Int) == 45) = false := int_ne' (n := 45) (by decide) hc.2.1
 have n105 : ((s[0].toNat : Int) == 105) = false := int_ne' (n := 105) (by decide) hc.2.2.1
 have n73 : ((s[0].toNat : Int) == 73) = false := int_ne' (n := 73) (by decide) hc.2.2.2.1
 have n110 : ((s[0].toNat : Int) == 110) = false := int_ne' (n := 110) (by decide) hc.2.2.2.2.1
 have n78 : ((s[0].toNat : Int) == 78) = false := int_ne' (n := 78) (by decide) hc.2.2.2.2.2
 have HC := Lib.hid (And.intro hl hc)
 clear hl hc
 have hres : specialN (ls s) = none := by
  unfold specialN; rw [HC.out.1]; simp only []; rw [if_neg (by simp [HC.out.2]), if_neg (by simp [HC.out.2]), if_neg (by simp [HC.out.2])]
 have HR := Lib.hid hres
 clear hres
 go_enter Tryz.func133, Tryz.ntmps133
 go_wp2_with fail
 go_returns
 refine ⟨rfl, ?_⟩
 rw [HR.out]; rfl
theorem special_any (s : ByteArray) (w : World) (hs : s.size <= 1099511627776) : Calls Tryz.prog 133 #[.string s] w (SpecialPost (ls s) w) := by
 by_cases h0 : 0 < s.size
 ·by_cases a1 : s[0] = 43
  ·exact special_plus s w hs h0 a1
  by_cases a2 : s[0] = 45
  ·exact special_minus s w hs h0 a2
  by_cases a3 : s[0] = 105
  ·exact special_i s w hs h0 a3
  by_cases a4 : s[0] = 73
  ·exact special_I s w hs h0 a4
  by_cases a5 : s[0] = 110
  ·exact special_n s w hs h0 a5
  by_cases a6 : s[0] = 78
  ·exact special_N s w hs h0 a6
  exact special_other s w hs h0 ⟨a1, a2, a3, a4, a5, a6⟩
 ·have hz : ((s.size : Int) == 0) = true := by rw [beq_iff_eq]; omega
  have hl : ls s = [] := List.eq_nil_of_length_eq_zero (by rw [ls_length]; omega)
  have HL := Lib.hid hl
  clear hl
  go_enter Tryz.func133, Tryz.ntmps133
  go_wp2_with fail
  go_returns
  refine ⟨rfl, ?_⟩
  rw [HL.out]; rfl
end Go.Proofs.YtdfolbmoohcblaaGreatDoor
