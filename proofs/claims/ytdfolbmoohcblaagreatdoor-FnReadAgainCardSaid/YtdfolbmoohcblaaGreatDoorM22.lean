/-
For FnReadAgain, part 22: W7a W7b W7c W7d.
-/
import Derived.Test.YtdfolbmoohcblaaGreatDoorM21
import Derived.Deep.DeepCutAuto
import Derived.Deep.CutBlock
import Derived.Test.YtdfolbmoohcblaaGreatDoorM13
set_option linter.all false
namespace Go.Proofs.YtdfolbmoohcblaaGreatDoor
set_option maxHeartbeats 4000000
set_option maxRecDepth 100000
open Go.RowKit
def RightPost (w : World) (g : Nat) (D : Nat -> Nat) (dp : Int) (neg : Bool) (k : Nat) (e : Ending) (w' : World) : Prop :=
 e = .returned (.tuple #[]) /\ ∃ (r n : Nat) (D' : Nat -> Nat) (n' : Nat) (tr' : Bool), 1 <= r /\ r <= 20 /\ 2 ^ k <= n /\ n < 10 ^ r /\ (r = 1 -> n = D 0 - 48) /\ Dec w' g D' n' (dp - ((r : Int) - 1)) neg tr' /\ At g w w' /\ Gd D' n' /\ 0 < n' /\ n' <= 800 /\ D' 0 = 48 + n / 2 ^ k /\ 49 <= D' 0
def R1 (D : Nat -> Nat) (k r n : Nat) : Prop := 1 <= r /\ r <= 20 /\ 2 ^ k <= n /\ n < 10 * 2 ^ k /\ n < 10 ^ r /\ (r = 1 -> n = D 0 - 48)
def RbRel (w : World) (g : Nat) (D : Nat -> Nat) (nd : Nat) (dp : Int) (neg tr : Bool) (k r0 n0 : Nat) (n : Nat) (v4 v5 v6 : Value) (wr : World) : Prop :=
 ∃ (r W N : Nat) (D' : Nat -> Nat), n = nd - r /\ v4 = .int .i64 r /\ v5 = .int .i64 W /\ v6 = .int .u64 N /\ r0 <= r /\ W + r0 = r /\ W <= 800 /\ N < 10 * 2 ^ k /\ (W = 0 -> N = n0) /\ (0 < W -> D' 0 = 48 + n0 / 2 ^ k) /\ Dec wr g D' nd dp neg tr /\ At g w wr /\ (∀ i, r <= i -> D' i = D i) /\ Gd D' W
def RcRel (w : World) (g : Nat) (nd : Nat) (dp : Int) (neg : Bool) (k n0 : Nat) (n : Nat) (v5 v6 : Value) (wr : World) : Prop :=
 ∃ (W N t : Nat) (D' : Nat -> Nat) (tr' : Bool), n = (if N = 0 then 0 else t + 1) /\ v5 = .int .i64 W /\ v6 = .int .u64 N /\ W <= 800 /\ N < 10 * 2 ^ k /\ Lft k t N /\ (W = 0 -> N = n0) /\ (0 < W -> D' 0 = 48 + n0 / 2 ^ k) /\ Dec wr g D' nd dp neg tr' /\ At g w wr /\ Gd D' W
theorem r1_of {D : Nat -> Nat} {nd k r : Nat} (hD : Gd D nd) (h0 : 49 <= D 0) (hk : k <= 60) (hr : r <= nd) (hlast : r = 0 \/ dvf D 0 (r - 1) < 2 ^ k) (hge : 2 ^ k <= dvf D 0 r) : R1 D k r (dvf D 0 r) := by
 have hp := Nat.two_pow_pos k
 have hr0 : 0 < r := by
  rcases Nat.eq_zero_or_pos r with h | h
  ·subst h; simp only [dvf] at hge; omega
  ·exact h
 obtain ⟨m, rfl⟩ : ∃ m, r = m + 1 := ⟨r - 1, by omega⟩
 have hl : dvf D 0 m < 2 ^ k := by
  rcases hlast with h | h
  ·omega
  ·exact h
 have hx := hD m hr
 refine ⟨by omega, ?_, hge, ?_, ?_, ?_⟩
 ·rcases Nat.eq_zero_or_pos m with h | h
  ·omega
  ·have := pow10_19 hk (dvf_lo h0 h) hl; omega
 ·rw [dvf_succ]; omega
 ·exact dvf_lt hD 0 (m + 1) (by omega)
 ·intro h1
  have : m = 0 := by omega
  subst this
  exact dvf_one D
def IrRel (D : Nat -> Nat) (k : Nat) (w : World) (n : Nat) (v4 v6 : Value) (wr : World) : Prop :=
 ∃ r N : Nat, n = 2 ^ k - N /\ v4 = .int .i64 r /\ v6 = .int .u64 N /\ 1 <= r /\ 10 ^ (r - 1) <= N /\ N < 10 ^ r /\ N < 10 * 2 ^ k /\ (r = 1 -> N = D 0 - 48) /\ wr = w
theorem r20 {k r N : Nat} (hk : k <= 60) (h : 10 ^ (r - 1) <= N) (hN : N < 10 * 2 ^ k) : r <= 20 := by
 apply Decidable.byContradiction
 intro hr
 have h1 : 10 ^ 20 <= 10 ^ (r - 1) := Nat.pow_le_pow_right (by decide) (by omega)
 have h2 : 2 ^ k <= 2 ^ 60 := Nat.pow_le_pow_right (by decide) hk
 omega
theorem bits_maskk (a k M1 : Nat) (ha : a < 18446744073709551616) (hk : k <= 60) (hM : M1 = 2 ^ k - 1) : bits .and .u64 (a : Int) (M1 : Int) = ((a % 2 ^ k : Nat) : Int) := by
 have : 2 ^ k <= 2 ^ 60 := Nat.pow_le_pow_right (by decide) hk
 rw [bits_and_u64 a M1 ha (by omega), hM, Nat.and_two_pow_sub_one_eq_mod]
theorem rightShift_any (w : World) (g : Nat) (D : Nat -> Nat) (nd : Nat) (dp : Int) (neg tr : Bool) (k : Nat) (h : Dec w g D nd dp neg tr) (hn0 : 0 < nd) (hn : nd <= 800) (hD : Gd D nd) (h0 : 49 <= D 0) (hk1 : 1 <= k) (hk : k <= 60) (hdp1 : -100000 <= dp) (hdp2 : dp <= 100000) :
  Calls Tryz.prog 129 #[.pointer (some ⟨g, 0, none⟩), .int .u64 k] w (RightPost w g D dp neg k) := by
 have cn := h.nd
 have hpk : 2 ^ k <= 2 ^ 60 := Nat.pow_le_pow_right (by decide) hk
 have hpk0 : 0 < 2 ^ k := Nat.two_pow_pos k
 obtain ⟨P, hP⟩ : ∃ P, P = 2 ^ k := ⟨_, rfl⟩
 have HH := Lib.hid (And.intro h (And.intro hD (And.intro h0 (And.intro hP (And.intro hpk hpk0)))))
 clear h hD h0 hpk hpk0 hP
 go_enter Tryz.func129, Tryz.ntmps129
 go_upto_block 0 with fail
 go_cut [4, 6] from 12 (fun s4 s6 wx => ∃ r n : Nat, s4 = .int .i64 r /\ s6 = .int .u64 n /\ R1 D k r n /\ wx = w)
 case first =>
  go_wp2_with fail
  go_loopg [4, 6] nd (fun n v4 v6 wr => ∃ r : Nat, n = nd - r /\ r <= nd /\ v4 = .int .i64 r /\ v6 = .int .u64 (dvf D 0 r : Nat) /\ (r = 0 \/ dvf D 0 (r - 1) < 2 ^ k) /\ wr = w)
  case atStart => exact ⟨0, by omega, by omega, rfl, rfl, .inl rfl, rfl⟩
  case round =>
   obtain ⟨r, hgk, hr, rfl, rfl, hlast, rfl⟩ := hrel
   obtain ⟨N, hN⟩ : ∃ N, N = dvf D 0 r := ⟨_, rfl⟩
   rw [<- hN]
   by_cases hlt : N < 2 ^ k
   ·have hb : ((N : Int) / 2 ^ k == 0) = true := by rw [shr_cast, beq_iff_eq, Nat.div_eq_of_lt hlt]; rfl
    have hN60 : N < 1152921504606846976 := by have := HH.out; omega
    by_cases hrn : r < nd
    ·have cd := HH.out.1.d r (by omega)
     have hx := HH.out.2.1 r hrn
     have hM := dvf_succ D r
     obtain ⟨x, hxe⟩ : ∃ x, x = D r := ⟨_, rfl⟩
     rw [<- hxe] at cd hx hM
     obtain ⟨hx1, hx2⟩ := hx
     rw [<- hN] at hM
     have HM := Lib.hid (And.intro hM (And.intro hN (And.intro hlt hlast)))
     have e1 : (N : Int) * 10 + x - 48 = ((dvf D 0 (r + 1) : Nat) : Int) := by omega
     have HE := Lib.hid e1
     clear hM hN hlt hlast hxe e1
     go_wp2_with fail
     rw [HE.out]
     go_roundg (gk - 1)
     case measure => omega
     case rel => exact ⟨r + 1, by omega, by omega, by go_num, rfl, .inr (by have := HM.out; rw [Nat.add_sub_cancel, <- this.2.1]; exact this.2.2.1), rfl⟩
    ·have hrn' : r = nd := by omega
     subst hrn'
     have hlo := dvf_lo HH.out.2.2.1 hn0
     have hhi := dvf_lt HH.out.2.1 0 r (by omega)
     rw [<- hN] at hlo hhi
     have hNp : ((N : Int) == 0) = false := by
      rw [beq_eq_false_iff_ne]
      have : 0 < 10 ^ (r - 1) := Nat.pow_pos (by decide)
      omega
     have HS : Hid (IrRel D k wr (2 ^ k - N) (.int .i64 r) (.int .u64 N) wr) := ⟨r, N, rfl, rfl, rfl, hn0, hlo, hhi, by omega, fun h => by subst h; rw [hN]; exact dvf_one D, rfl⟩
     clear hlo hhi hN hlt hlast
     go_wp2_with fail
     go_loopg [4, 6] (2 ^ k - N) (fun n v4 v6 wx => IrRel D k wr n v4 v6 wx)
     case atStart => exact HS.out
     case round =>
      rename_i wi
      clear HS hNp hb hN60
      obtain ⟨q, M, hgk2, rfl, rfl, hq1, hlo, hhi, hM10, hq, rfl⟩ := hrel
      have hq20 := r20 hk hlo hM10
      have HM := Lib.hid (And.intro hlo (And.intro hhi (And.intro hM10 hq)))
      by_cases hlt : M < 2 ^ k
      ·have hb : ((M : Int) / 2 ^ k == 0) = true := by rw [shr_cast, beq_iff_eq, Nat.div_eq_of_lt hlt]; rfl
       have hM60 : M < 1152921504606846976 := by have := HH.out; omega
       have HL := Lib.hid hlt
       clear hlo hhi hM10 hq hlt
       go_wp2_with fail
       go_roundg (2 ^ k - M * 10)
       case measure =>
        obtain ⟨hlo, hhi, hM10, hq⟩ := HM.out
        have := HL.out
        have : 0 < 10 ^ (q - 1) := Nat.pow_pos (by decide)
        omega
       case rel =>
        obtain ⟨hlo, hhi, hM10, hq⟩ := HM.out
        have hl := HL.out
        refine ⟨q + 1, M * 10, rfl, by go_num, by go_num, by omega, ?_, ?_, by omega, by omega, rfl⟩
        ·have : 10 ^ (q + 1 - 1) = 10 ^ (q - 1) * 10 := by rw [<- Nat.pow_succ]; congr 1; omega
         omega
        ·rw [Nat.pow_succ]; omega
      ·have hb : ((M : Int) / 2 ^ k == 0) = false := by
        rw [shr_cast, beq_eq_false_iff_ne]
        have := shr_pos (n := M) (k := k) (by omega)
        omega
       have HL := Lib.hid hlt
       clear hlo hhi hM10 hq hlt
       go_wp2_with fail
       go_meet
       obtain ⟨hlo, hhi, hM10, hq⟩ := HM.out
       exact ⟨q, M, rfl, rfl, ⟨hq1, hq20, by have := HL.out; omega, hM10, hhi, hq⟩, rfl⟩
   ·have hb : ((N : Int) / 2 ^ k == 0) = false := by
     rw [shr_cast, beq_eq_false_iff_ne]
     have := shr_pos (n := N) (k := k) (by omega)
     omega
    have HR := Lib.hid (r1_of HH.out.2.1 HH.out.2.2.1 hk hr hlast (by rw [<- hN]; omega))
    have HN := Lib.hid hN
    clear hN hlt hlast
    go_wp2_with fail
    go_meet
    exact ⟨r, N, rfl, rfl, by rw [HN.out]; exact HR.out, rfl⟩
 case rest =>
  obtain ⟨r, n0, rfl, rfl, hR, rfl⟩ := hcut
  obtain ⟨hr1, hr20, hge, hn10, hn1, hr1e⟩ := hR
  have hdec := HH.out.1
  have cdp := hdec.dp
  have uf1 := hdec.unfrozen 801
  have hpk := HH.out.2.2.2.2.1
  obtain ⟨M1, hM1⟩ : ∃ M1, M1 = 2 ^ k - 1 := ⟨_, rfl⟩
  have hM1b : M1 < 1152921504606846976 := by omega
  have hmask : IntKind.u64.wrap (2 ^ k) - 1 = (M1 : Int) := by
   rw [show (2 : Int) ^ k = ((2 ^ k : Nat) : Int) from by rw [Int.natCast_pow]; rfl, IntWalk.u64_in _ (by constructor <;> omega)]
   have := HH.out.2.2.2.2.2
   omega
  have HR := Lib.hid (And.intro hr1 (And.intro hr20 (And.intro hge (And.intro hn10 (And.intro hn1 (And.intro hr1e hdec))))))
  clear hr1 hge hn10 hn1 hr1e hdec hpk
  have HM := Lib.hid (And.intro hM1 hmask)
  clear hM1
  go_wp2_with fail
  clear hmask
  have HS : Hid (RbRel wc g D nd (dp - ((r : Int) - 1)) neg tr k r n0 (nd - r) (.int .i64 r) (.int .i64 0) (.int .u64 n0) (wc.setCell ⟨g, 801, none⟩ (.int .i64 (dp - ((r : Int) - 1))))) := by
   obtain ⟨hr1, hr20, hge, hn10, hn1, hr1e, hdec⟩ := HR.out
   exact ⟨r, 0, n0, D, rfl, rfl, rfl, rfl, Nat.le_refl _, by omega, by omega, hn10, fun _ => rfl, fun h => by omega, hdec.setDp _, (At.refl _ _).set _ _, fun _ _ => rfl, fun i hi => by omega⟩
  clear cdp uf1
  go_loopg [4, 5, 6] (nd - r) (fun n v4 v5 v6 wr => RbRel wc g D nd (dp - ((r : Int) - 1)) neg tr k r n0 n v4 v5 v6 wr)
  case atStart => exact HS.out
  case round =>
   clear HS
   obtain ⟨q, W, N, D', hgk, rfl, rfl, rfl, hrq, hWq, hW800, hN10, hNs, hD0, hdec, hat, hsame, hgd⟩ := hrel
   have cn := hdec.nd
   by_cases hlt : q < nd
   ·have cd := hdec.d q (by omega)
    have hx := HH.out.2.1 q hlt
    rw [hsame q (Nat.le_refl _)] at cd
    generalize D q = x at cd hx
    obtain ⟨hx1, hx2⟩ := hx
    obtain ⟨m, hm⟩ : ∃ m, m = N % 2 ^ k := ⟨_, rfl⟩
    obtain ⟨dg, hdg⟩ : ∃ d, d = N / 2 ^ k := ⟨_, rfl⟩
    have hm1 : m < 1152921504606846976 := by have := mask_lt N k; have := HH.out.2.2.2.2.1; omega
    have hdg9 : dg <= 9 := by rw [hdg]; exact shr_dig hN10
    have hNb : N < 18446744073709551616 := by have := HH.out.2.2.2.2.1; omega
    have e1 : (N : Int) / 2 ^ k = (dg : Int) := by rw [shr_cast, hdg]
    have e2 : bits .and .u64 (N : Int) (M1 : Int) = (m : Int) := by rw [bits_maskk N k M1 hNb hk HM.out.1, hm]
    have hr1 := HR.out.1
    have hW8 : (W : Int) < 800 := by omega
    have uf := hdec.unfrozen W
    have cw := hdec.d W (by omega)
    have HX := Lib.hid (And.intro hm (And.intro hdg (And.intro hN10 (And.intro hNs (And.intro hD0 (And.intro hdec (And.intro hat (And.intro hsame hgd))))))))
    clear hm hdg hN10 hNs hD0 hdec hat hsame hgd
    go_wp2_with fail
    go_roundg (gk - 1)
    case measure => omega
    case rel =>
     obtain ⟨hm, hdg, hN10, hNs, hD0, hdec, hat, hsame, hgd⟩ := HX.out
     have ev : (dg : Int) + 48 = ((48 + dg : Nat) : Int) := by omega
     rw [ev]
     refine ⟨q + 1, W + 1, m * 10 + (x - 48), upd D' W (48 + dg), by omega, by go_num, by go_num, vint (by omega), by omega, by omega, by omega, ?_, by omega, ?_, hdec.setD _ _ (by omega) (by omega), hat.set _ _, ?_, ?_⟩
     ·have := mask_lt N k; omega
     ·intro _
      unfold upd
      by_cases hW0 : W = 0
      ·rw [if_pos hW0.symm, hdg, hNs hW0]
      ·rw [if_neg (fun h => hW0 h.symm)]; exact hD0 (by omega)
     ·intro i hi; unfold upd; rw [if_neg (by omega)]; exact hsame i (by omega)
     ·intro i hi; unfold upd; split
      ·omega
      ·exact hgd i (by omega)
   ·have HS : Hid (RcRel wc g nd (dp - ((r : Int) - 1)) neg k n0 (if N = 0 then 0 else k + 1) (.int .i64 W) (.int .u64 N) wr) := by
     exact ⟨W, N, k, D', tr, rfl, rfl, rfl, hW800, hN10, Lft.start k N, hNs, hD0, hdec, hat, hgd⟩
    clear hN10 hNs hD0 hdec hat hsame hgd
    go_wp2_with fail
    clear cn
    go_loopg [5, 6] (if N = 0 then 0 else k + 1) (fun n v5 v6 wr => RcRel wc g nd (dp - ((r : Int) - 1)) neg k n0 n v5 v6 wr)
    case atStart => exact HS.out
    case round =>
     clear HS
     obtain ⟨V, M, t, D2, tr2, hgk2, rfl, rfl, hV800, hM10, hlft, hMs, hD0, hdec, hat, hgd⟩ := hrel
     have cn := hdec.nd
     by_cases hM0 : M = 0
     ·have hV0 : 0 < V := by
       rcases Nat.eq_zero_or_pos V with h | h
       ·have := hMs h; have := HR.out; have := HH.out.2.2.2.2.2; omega
       ·exact h
      have hd0 := hD0 hV0
      subst hM0
      have uf0 := hdec.unfrozen 800
      have HX := Lib.hid (And.intro hd0 (And.intro hdec (And.intro hat hgd)))
      clear hgk2 hM10 hlft hMs hD0 hdec hat hgd hd0
      go_wp2_with fail
      obtain ⟨hd0, hdec, hat, hgd⟩ := HX.out
      have htr := trim_any _ g D2 V (dp - ((r : Int) - 1)) neg tr2 (hdec.setNd V) hV800
      clear hd0 hdec hat hgd
      refine htr.mono ?_
      rintro e w' ⟨rfl, n', hn', hdec', hat', hz'⟩
      have HY := Lib.hid (And.intro hn' (And.intro hdec' (And.intro hat' hz')))
      clear hn' hdec' hat' hz' htr
      go_wp2_with fail
      go_returns
      obtain ⟨hd0, hdec, hat, hgd⟩ := HX.out
      obtain ⟨hn', hdec', hat', hz'⟩ := HY.out
      obtain ⟨hr1, hr20, hge, hn10, hn1, hr1e, -⟩ := HR.out
      have h1 := shr_pos hge
      have hn0' : 0 < n' := by
       rcases Nat.eq_zero_or_pos n' with h | h
       ·subst h; have := hz' 0 (Nat.le_refl _) hV0; omega
       ·exact h
      rw [if_neg (by omega)] at hdec'
      exact ⟨rfl, r, n0, D2, n', tr2, hr1, hr20, hge, hn1, hr1e, hdec', (hat.set _ _).trans hat', fun i hi => hgd i (by omega), hn0', by omega, hd0, by omega⟩
     ·have hMI : (0 : Int) < M := by omega
      obtain ⟨m, hm⟩ : ∃ m, m = M % 2 ^ k := ⟨_, rfl⟩
      obtain ⟨dg, hdg⟩ : ∃ d, d = M / 2 ^ k := ⟨_, rfl⟩
      have hm1 : m < 1152921504606846976 := by have := mask_lt M k; have := HH.out.2.2.2.2.1; omega
      have hdg9 : dg <= 9 := by rw [hdg]; exact shr_dig hM10
      have hMb : M < 18446744073709551616 := by have := HH.out.2.2.2.2.1; omega
      have e1 : (M : Int) / 2 ^ k = (dg : Int) := by rw [shr_cast, hdg]
      have e2 : bits .and .u64 (M : Int) (M1 : Int) = (m : Int) := by rw [bits_maskk M k M1 hMb hk HM.out.1, hm]
      have hms : m * 10 < 10 * 2 ^ k := by have := mask_lt M k; omega
      rw [if_neg hM0] at hgk2
      have hnext : ∃ t', (if m * 10 = 0 then 0 else t' + 1) < gk /\ Lft k t' (m * 10) := by
       rw [hm]
       cases t with
       | zero => exact ⟨0, by rw [if_pos hlft.last]; omega, ⟨Nat.zero_le _, by rw [hlft.last]; exact Nat.dvd_zero _⟩⟩
       | succ t => exact ⟨t, by split <;> omega, hlft.next⟩
      obtain ⟨t', hlt', hlft'⟩ := hnext
      have HN := Lib.hid (And.intro hlt' hlft')
      have uf := hdec.unfrozen V
      have uf3 := hdec.unfrozen 803
      have c3 := hdec.trc
      have HX := Lib.hid (And.intro hdg (And.intro hMs (And.intro hD0 (And.intro hdec (And.intro hat (And.intro hgd hms))))))
      by_cases hV8 : V < 800
      ·have hV8' : (V : Int) < 800 := by omega
       have cw := hdec.d V hV8
       clear hm hdg hM10 hMs hD0 hdec hat hgd hms hlt' hlft' hlft hgk2
       go_wp2_with fail
       go_roundg (if m * 10 = 0 then 0 else t' + 1)
       case measure => exact HN.out.1
       case rel =>
        obtain ⟨hdg, hMs, hD0, hdec, hat, hgd, hms⟩ := HX.out
        have ev : (dg : Int) + 48 = ((48 + dg : Nat) : Int) := by omega
        rw [ev]
        refine ⟨V + 1, m * 10, t', upd D2 V (48 + dg), tr2, rfl, by go_num, vint (by omega), by omega, hms, HN.out.2, by omega, ?_, hdec.setD _ _ (by omega) (by omega), hat.set _ _, ?_⟩
        ·intro _
         unfold upd
         by_cases hW0 : V = 0
         ·rw [if_pos hW0.symm, hdg, hMs hW0]
         ·rw [if_neg (fun h => hW0 h.symm)]; exact hD0 (by omega)
        ·intro i hi; unfold upd; split
         ·omega
         ·exact hgd i (by omega)
      ·have hV8' : 800 <= (V : Int) := by omega
       clear hm hdg hM10 hMs hD0 hdec hat hgd hms hlt' hlft' hlft hgk2
       go_wp2_with fail
       all_goals
        go_roundg (if m * 10 = 0 then 0 else t' + 1)
        case measure => exact HN.out.1
        case rel =>
         obtain ⟨hdg, hMs, hD0, hdec, hat, hgd, hms⟩ := HX.out
         first
         | exact ⟨V, m * 10, t', D2, true, rfl, rfl, vint (by omega), hV800, hms, HN.out.2, by omega, hD0, hdec.setTr _, hat.set _ _, hgd⟩
         | exact ⟨V, m * 10, t', D2, tr2, rfl, rfl, vint (by omega), hV800, hms, HN.out.2, by omega, hD0, hdec, hat, hgd⟩
structure GD (w : World) (g : Nat) (D : Nat -> Nat) (nd : Nat) (dp : Int) (neg tr : Bool) : Prop where
 dec : Dec w g D nd dp neg tr
 pos : 0 < nd
 le : nd <= 800
 gd : Gd D nd
 first : 49 <= D 0
theorem shiftL_any (w : World) (g : Nat) (D : Nat -> Nat) (nd : Nat) (dp : Int) (neg tr : Bool) (k : Nat) (h : GD w g D nd dp neg tr) (hc : Cheat w) (hk1 : 1 <= k) (hk : k <= 60) (hdp1 : -100000 <= dp) (hdp2 : dp <= 100000) :
  Calls Tryz.prog 103 #[.pointer (some ⟨g, 0, none⟩), .int .i64 k] w (LeftPost w g D nd dp neg k) := by
 have cn := h.dec.nd
 have hcall := leftShift_any w g D nd dp neg tr k h.dec hc h.pos h.le h.gd h.first hk1 hk hdp1 hdp2
 have hn0 : ((nd : Int) == 0) = false := by rw [beq_eq_false_iff_ne]; have := h.pos; omega
 have hd1 : decide (0 < (k : Int)) = true := decide_eq_true (by omega)
 have hd2 : decide (60 < (k : Int)) = false := decide_eq_false (by omega)
 have HC := Lib.hid hcall
 clear h hc hcall
 go_enter Tryz.func103, Tryz.ntmps103
 go_wp2_with fail
 refine wp_loop_rounds 1 ?_
 repeat any_goals (rw [rounds_succ]; go_wp2_with fail)
 refine HC.out.mono ?_
 rintro e w' hp
 have HP := Lib.hid hp
 obtain ⟨rfl, -⟩ := hp
 go_wp2_with fail
 go_returns
 exact HP.out
theorem shiftR_any (w : World) (g : Nat) (D : Nat -> Nat) (nd : Nat) (dp : Int) (neg tr : Bool) (k : Nat) (h : GD w g D nd dp neg tr) (hk1 : 1 <= k) (hk : k <= 60) (hdp1 : -100000 <= dp) (hdp2 : dp <= 100000) :
  Calls Tryz.prog 103 #[.pointer (some ⟨g, 0, none⟩), .int .i64 (-(k : Int))] w (RightPost w g D dp neg k) := by
 have cn := h.dec.nd
 have hcall := rightShift_any w g D nd dp neg tr k h.dec h.pos h.le h.gd h.first hk1 hk hdp1 hdp2
 have hn0 : ((nd : Int) == 0) = false := by rw [beq_eq_false_iff_ne]; have := h.pos; omega
 have hd1 : decide (0 < -(k : Int)) = false := decide_eq_false (by omega)
 have hd2 : decide (-(k : Int) < 0) = true := decide_eq_true (by omega)
 have hd3 : decide (-(k : Int) < -60) = false := decide_eq_false (by omega)
 have HC := Lib.hid hcall
 clear h hcall
 go_enter Tryz.func103, Tryz.ntmps103
 go_wp2_with fail
 refine wp_loop_rounds 1 ?_
 repeat any_goals (rw [rounds_succ]; go_wp2_with fail)
 refine HC.out.mono ?_
 rintro e w' hp
 have HP := Lib.hid hp
 obtain ⟨rfl, -⟩ := hp
 go_wp2_with fail
 go_returns
 exact HP.out
def FarPost (w : World) (g : Nat) (dp : Int) (neg : Bool) (k : Nat) (e : Ending) (w' : World) : Prop :=
 e = .returned (.tuple #[]) /\ ∃ (D' : Nat -> Nat) (n' : Nat) (dp' : Int) (tr' : Bool), GD w' g D' n' dp' neg tr' /\ At g w w' /\ dp - k - 20 <= dp' /\ dp' <= dp
def FarRel (w : World) (g : Nat) (dp : Int) (neg : Bool) (k : Nat) (n : Nat) (v1 : Value) (wr : World) : Prop :=
 ∃ (j : Nat) (D' : Nat -> Nat) (n' : Nat) (dp' : Int) (tr' : Bool), n = j /\ 1 <= j /\ j <= k /\ v1 = .int .i64 (-(j : Int)) /\ GD wr g D' n' dp' neg tr' /\ At g w wr /\ dp - (k - j) <= dp' /\ dp' <= dp
theorem RightPost.gd {w w' : World} {g : Nat} {D : Nat -> Nat} {dp : Int} {neg : Bool} {k : Nat} {e : Ending} (h : RightPost w g D dp neg k e w') : ∃ (D' : Nat -> Nat) (n' : Nat) (dp' : Int) (tr' : Bool), GD w' g D' n' dp' neg tr' /\ At g w w' /\ dp - 19 <= dp' /\ dp' <= dp := by
 obtain ⟨-, r, n, D', n', tr', h1, h2, h3, h4, h5, h6, h7, h8, h9, h10, h11, h12⟩ := h
 exact ⟨D', n', _, tr', ⟨h6, h9, h10, h8, h12⟩, h7, by omega, by omega⟩
theorem shiftFar_any (w : World) (g : Nat) (D : Nat -> Nat) (nd : Nat) (dp : Int) (neg tr : Bool) (k : Nat) (h : GD w g D nd dp neg tr) (hk1 : 1 <= k) (hk : k <= 90000) (hdp1 : -5000 <= dp) (hdp2 : dp <= 40000) :
  Calls Tryz.prog 103 #[.pointer (some ⟨g, 0, none⟩), .int .i64 (-(k : Int))] w (FarPost w g dp neg k) := by
 have cn := h.dec.nd
 have hn0 : ((nd : Int) == 0) = false := by rw [beq_eq_false_iff_ne]; have := h.pos; omega
 have hd1 : decide ((k : Int) < 0) = false := decide_eq_false (by omega)
 have hd2 : decide (0 < k) = true := decide_eq_true (by omega)
 have HS : Hid (FarRel w g dp neg k k (.int .i64 (-(k : Int))) w) := ⟨k, D, nd, dp, tr, rfl, hk1, Nat.le_refl _, rfl, h, At.refl _ _, by omega, Int.le_refl _⟩
 clear h
 go_enter Tryz.func103, Tryz.ntmps103
 go_wp2_with fail
 clear cn hn0 hd1 hd2
 go_loopg [1] k (fun n v1 wr => FarRel w g dp neg k n v1 wr)
 case atStart => exact HS.out
 case round =>
  clear HS
  obtain ⟨j, D', n', dp', tr', hgk, hj1, hj2, rfl, hgd, hat, hdpa, hdpb⟩ := hrel
  by_cases h60 : 60 < j
  ·have hcall := rightShift_any wr g D' n' dp' neg tr' 60 hgd.dec hgd.pos hgd.le hgd.gd hgd.first (by omega) (by omega) (by omega) (by omega)
   have hd3 : decide (-(j : Int) < -60) = true := decide_eq_true (by omega)
   have HC := Lib.hid hcall
   have HX := Lib.hid hat
   clear hcall hgd hat
   go_wp2_with fail
   refine HC.out.mono ?_
   rintro e w' hp
   have HP := Lib.hid hp.gd
   obtain ⟨rfl, -⟩ := hp
   go_wp2_with fail
   go_roundg (gk - 60)
   case measure => omega
   case rel =>
    obtain ⟨D2, n2, dp2, tr2, g2, a2, b1, b2⟩ := HP.out
    exact ⟨j - 60, D2, n2, dp2, tr2, by omega, by omega, by omega, vint (by omega), g2, HX.out.trans a2, by omega, by omega⟩
  ·have hcall := rightShift_any wr g D' n' dp' neg tr' j hgd.dec hgd.pos hgd.le hgd.gd hgd.first (by omega) (by omega) (by omega) (by omega)
   have hd3 : decide (-(j : Int) < -60) = false := decide_eq_false (by omega)
   have HC := Lib.hid hcall
   have HX := Lib.hid hat
   clear hcall hgd hat
   go_wp2_with fail
   refine HC.out.mono ?_
   rintro e w' hp
   have HP := Lib.hid hp.gd
   obtain ⟨rfl, -⟩ := hp
   go_wp2_with fail
   go_returns
   obtain ⟨D2, n2, dp2, tr2, g2, a2, b1, b2⟩ := HP.out
   exact ⟨rfl, D2, n2, dp2, tr2, g2, HX.out.trans a2, by omega, by omega⟩
def RiPost (w : World) (e : Ending) (w' : World) : Prop := (∃ x : Nat, x < 18446744073709551616 /\ e = .returned (.int .u64 x)) /\ w = w'
theorem wrap_nat (x : Int) : ∃ n : Nat, n < 18446744073709551616 /\ IntKind.u64.wrap x = n := by
 refine ⟨(IntKind.u64.wrap x).toNat, ?_, ?_⟩ <;> (rw [IntKind.wrap_u64]; omega)
def RiRel (w : World) (n : Nat) (v3 v4 : Value) (wr : World) : Prop := ∃ i x : Nat, n = 20 - i /\ i <= 20 /\ v3 = .int .i64 i /\ v4 = .int .u64 x /\ x < 18446744073709551616 /\ wr = w
theorem rounded_any (w : World) (g : Nat) (D : Nat -> Nat) (nd : Nat) (dp : Int) (neg tr : Bool) (h : GD w g D nd dp neg tr) (hdp1 : -100000 <= dp) (hdp2 : dp <= 100000) :
  Calls Tryz.prog 157 #[.pointer (some ⟨g, 0, none⟩)] w (RiPost w) := by
 have cn := h.dec.nd
 have cdp := h.dec.dp
 have hle := h.le
 have hru := roundUp_any w g D nd dp neg tr dp h.dec h.le hdp1 hdp2
 have HH := Lib.hid h.dec
 have HR := Lib.hid hru
 clear h hru
 by_cases h20 : 20 < dp
 ·go_enter Tryz.func157, Tryz.ntmps157
  go_wp2_with fail
  go_returns
  exact ⟨⟨18446744073709551615, by omega, rfl⟩, rfl⟩
 ·go_enter Tryz.func157, Tryz.ntmps157
  go_wp2_with fail
  go_loopg [3, 4] 20 (fun n v3 v4 wr => RiRel w n v3 v4 wr)
  case atStart => exact ⟨0, 0, rfl, by omega, rfl, rfl, by omega, rfl⟩
  case round =>
   obtain ⟨i, x, hgk, hi, rfl, rfl, hx, rfl⟩ := hrel
   by_cases hgo : (i : Int) < dp /\ i < nd
   ·obtain ⟨hid, hin⟩ := hgo
    have cd := HH.out.d i (by omega)
    have hdec : decide ((i : Int) < dp) = true := decide_eq_true hid
    have hdec2 : decide (i < nd) = true := decide_eq_true hin
    go_wp2_with fail
    go_roundg (gk - 1)
    case measure => omega
    case rel =>
     obtain ⟨y, hy1, hy2⟩ := wrap_nat (IntKind.u64.wrap ((x : Int) * 10) + ((D i : Int) - 48) % 256)
     exact ⟨i + 1, y, by omega, by omega, by go_num, by rw [hy2], hy1, rfl⟩
   ·by_cases hid : (i : Int) < dp
    case' pos =>
     have hdec : decide ((i : Int) < dp) = true := decide_eq_true hid
     have hdec2 : decide (i < nd) = false := decide_eq_false (by omega)
    case' neg =>
     have hdec : decide ((i : Int) < dp) = false := decide_eq_false hid
    all_goals
     clear hgo
     go_wp2_with fail
     clear cn hle
     try clear hdec2
     clear hdec
     have HS : Hid (RiRel wr (20 - i) (.int .i64 i) (.int .u64 x) wr) := ⟨i, x, rfl, hi, rfl, rfl, hx, rfl⟩
     clear hid hx hi
     go_loopg [3, 4] (20 - i) (fun n v3 v4 wr' => RiRel wr n v3 v4 wr')
     case atStart => exact HS.out
     case round =>
      clear HS
      obtain ⟨j, y, hgk2, hj, rfl, rfl, hy, rfl⟩ := hrel
      by_cases hjd : (j : Int) < dp
      ·have hdec : decide ((j : Int) < dp) = true := decide_eq_true hjd
       go_wp2_with fail
       go_roundg (gk - 1)
       case measure => omega
       case rel =>
        obtain ⟨z, hz1, hz2⟩ := wrap_nat ((y : Int) * 10)
        exact ⟨j + 1, z, by omega, by omega, by go_num, by rw [hz2], hz1, rfl⟩
      ·have hdec : decide ((j : Int) < dp) = false := decide_eq_false hjd
       go_wp2_with fail
       refine HR.out.mono ?_
       rintro e w' ⟨⟨b, rfl⟩, rfl⟩
       cases b
       ·go_wp2_with fail
        go_returns
        exact ⟨⟨y, hy, rfl⟩, rfl⟩
       ·go_wp2_with fail
        go_returns
        obtain ⟨z, hz1, hz2⟩ := wrap_nat ((y : Int) + 1)
        exact ⟨⟨z, hz1, ret_int hz2⟩, rfl⟩
def jumps (J : Nat -> Act -> World -> Prop) (Q : Exit -> Act -> World -> Prop) : Exit -> Act -> World -> Prop
 | .goto l, a, w => J l a w
 | e, a, w => Q e a w
theorem wp_scope_outs {P : Program} {a : Act} {w : World} {Q : Exit -> Act -> World -> Prop} {c : Code} (J : Nat -> Act -> World -> Prop) (first : c.wp P (jumps J Q) a w)
  (pass : ∀ l a w, J l a w -> ∃ rest, findLabel c l = some rest /\ rest.wp P (Exit.noGoto Q) a w) : (Code.scope c).wp P Q a w := by
 intro b k cs
 obtain ⟨e, a₁, w₁, hq, harr⟩ := first b (.inScope c :: k) cs
 cases e with
 | normal => exact ⟨.normal, a₁, w₁, hq, .head step_scope (Steps.trans harr (.one step_inScope))⟩
 | exit id => exact ⟨.exit id, a₁, w₁, hq, fun k' hk => .head step_scope (harr k' (by simp [exitTo, hk]))⟩
 | goto l =>
  obtain ⟨rest, hf, hw⟩ := pass l a₁ w₁ hq
  have hg : gotoIn l (.inScope c :: k) = some (.code rest :: .inScope c :: k) := by simp [gotoIn, hf]
  obtain ⟨e₂, a₂, w₂, hq₂, harr₂⟩ := hw b (.inScope c :: k) cs
  have key : ∃ e a' w', Q e a' w' /\ Arrives P (lone (b.at a₁ (.code rest :: .inScope c :: k)) cs w₁) b k cs e a' w' := by
   cases e₂ with
   | normal => exact ⟨.normal, a₂, w₂, hq₂, Steps.trans harr₂ (.one step_inScope)⟩
   | exit id => exact ⟨.exit id, a₂, w₂, hq₂, fun k' hk => harr₂ k' (by simp [exitTo, hk])⟩
   | goto l' => exact hq₂.elim
   | ret => exact ⟨_, a₂, w₂, hq₂, harr₂⟩
   | panic ch => exact ⟨_, a₂, w₂, hq₂, harr₂⟩
   | outgrown => exact ⟨_, a₂, w₂, hq₂, harr₂⟩
  obtain ⟨e₃, a₃, w₃, hq₃, harr₃⟩ := key
  exact ⟨e₃, a₃, w₃, hq₃, .of_steps (.head step_scope (harr _ hg)) harr₃⟩
 | ret => exact ⟨_, a₁, w₁, hq, .of_steps (.one step_scope) harr⟩
 | panic ch => exact ⟨_, a₁, w₁, hq, .of_steps (.one step_scope) harr⟩
 | outgrown => exact ⟨_, a₁, w₁, hq, .of_steps (.one step_scope) harr⟩
def scopeOf : Code -> Option Code
 | .scope c => some c
 | .seq a b => match scopeOf a with
  | some c => some c
  | none => scopeOf b
 | _ => none
noncomputable def c141 : Code := (Tryz.f141.body.bind scopeOf).getD .skip
noncomputable def rest141 (l : Nat) : Code := (findLabel c141 l).getD .skip
noncomputable def body141a : Code := ((findBlk 0 c141).bind firstLoop).getD .skip
noncomputable def body141b : Code := ((findBlk 2 c141).bind firstLoop).getD .skip
noncomputable def tail141 : Code := (afterBlk 2 c141).getD .skip
def ptab (i : Nat) : Nat := [1, 3, 6, 9, 13, 16, 19, 23, 26].getD i 0
structure FbEnv (w : World) (g : Nat) : Prop where
 c0 : w.cell? ⟨14, 0, none⟩ = some (.int .u64 52)
 c1 : w.cell? ⟨14, 1, none⟩ = some (.int .u64 11)
 c2 : w.cell? ⟨14, 2, none⟩ = some (.int .i64 (-1023))
 low : 18 < g
 cheat : ∃ h o c, h < g /\ w.cell? ⟨16, 0, none⟩ = some (.slice (some ⟨h, o, none⟩) 61 c) /\ ∀ k, 1 <= k -> k <= 60 -> w.cell? ⟨h, o + k * 2, none⟩ = some (.int .i64 (cutD k : Nat)) /\ w.cell? ⟨h, o + k * 2 + 1, none⟩ = some (.string (bs (cutT k)))
 tab : ∃ h o c, h < g /\ w.cell? ⟨18, 0, none⟩ = some (.slice (some ⟨h, o, none⟩) 9 c) /\ ∀ i, i < 9 -> w.cell? ⟨h, o + i, none⟩ = some (.int .i64 (ptab i : Nat))
theorem FbEnv.at {w w' : World} {g : Nat} (h : FbEnv w g) (hb : At g w w') : FbEnv w' g := by
 have hk : ∀ b o, b < g -> w'.cell? ⟨b, o, none⟩ = w.cell? ⟨b, o, none⟩ := fun b o hlt => hb.1.cell (p := ⟨b, o, none⟩) hlt
 obtain ⟨c0, c1, c2, low, ⟨h1, o1, k1, l1, d1, e1⟩, ⟨h2, o2, k2, l2, d2, e2⟩⟩ := h
 refine ⟨by rw [hk _ _ (by omega)]; exact c0, by rw [hk _ _ (by omega)]; exact c1, by rw [hk _ _ (by omega)]; exact c2, low, ⟨h1, o1, k1, l1, by rw [hk _ _ (by omega)]; exact d1, ?_⟩, ⟨h2, o2, k2, l2, by rw [hk _ _ (by omega)]; exact d2, ?_⟩⟩
 ·intro k a b; rw [hk _ _ l1, hk _ _ l1]; exact e1 k a b
 ·intro i hi; rw [hk _ _ l2]; exact e2 i hi
theorem FbEnv.cht {w : World} {g : Nat} (h : FbEnv w g) : Cheat w := by
 obtain ⟨h1, o1, k1, l1, d1, e1⟩ := h.cheat
 exact ⟨h1, o1, k1, d1, e1⟩
def FB (g : Nat) (V4 : Int) (ov : Bool) (exp : Int) (mant : Int) (x : Nat -> Value) : Act := ⟨#[.pointer (some ⟨g, 0, none⟩), .pointer (some ⟨14, 0, none⟩), x 2, x 3, .int .u64 V4, .bool ov, .int .i64 exp, .int .u64 mant, x 8, x 9, x 10, x 11, x 12, x 13, x 14, x 15, x 16, x 17, x 18, x 19, x 20, x 21, x 22, x 23, x 24, x 25, x 26, x 27, x 28, x 29, x 30, x 31, x 32, x 33, x 34, x 35, x 36, x 37, x 38, x 39, x 40, x 41, x 42, x 43, x 44, x 45, x 46, x 47, x 48, x 49, x 50, x 51, x 52, x 53, x 54, x 55, x 56, x 57, x 58, x 59, x 60, x 61, x 62, x 63, x 64, x 65, x 66, x 67, x 68, x 69, x 70, x 71, x 72, x 73, x 74, x 75, x 76, x 77, x 78, x 79, x 80, x 81, x 82, x 83, x 84, x 85, x 86, x 87, x 88, x 89, x 90, x 91, x 92, x 93, x 94, x 95, x 96, x 97, x 98, x 99, x 100, x 101, x 102, x 103, x 104, x 105, x 106, x 107, x 108, x 109, x 110, x 111, x 112, x 113, x 114, x 115, x 116, x 117, x 118, x 119, x 120, x 121, x 122, x 123, x 124, x 125, x 126, x 127, x 128, x 129, x 130, x 131, x 132, x 133, x 134, x 135, x 136, x 137, x 138, x 139, x 140, x 141, x 142, x 143, x 144, x 145, x 146, x 147, x 148, x 149, x 150, x 151, x 152, x 153, x 154, x 155, x 156, x 157, x 158, x 159, x 160, x 161, x 162, x 163, x 164, x 165, x 166, x 167, x 168, x 169, x 170, x 171, x 172, x 173, x 174, x 175, x 176, x 177, x 178, x 179, x 180, x 181, x 182, x 183, x 184, x 185, x 186, x 187, x 188, x 189, x 190, x 191, x 192, x 193, x 194, x 195, x 196, x 197, x 198, x 199, x 200, x 201, x 202, x 203, x 204, x 205, x 206, x 207, x 208, x 209, x 210, x 211, x 212, x 213, x 214, x 215, x 216, x 217, x 218, x 219, x 220, x 221, x 222, x 223, x 224, x 225, x 226, x 227, x 228, x 229, x 230, x 231, x 232, x 233, x 234, x 235, x 236, x 237, x 238, x 239, x 240, x 241, x 242], []⟩
theorem ptab_le : ∀ i, i < 9 -> 1 <= ptab i /\ ptab i <= 27 /\ (1 <= i -> 3 <= ptab i /\ cutD (ptab i) <= i) := by decide +kernel
theorem fb_out (g : Nat) (D : Nat -> Nat) (nd : Nat) (dp : Int) (neg tr : Bool) (w : World) (h : Dec w g D nd dp neg tr) (env : FbEnv w g) (ov : Bool) (E M : Nat) (hE : E <= 2047) (hEM : E = 2047 -> M = 0) (hM : M < 18446744073709551616) (x : Nat -> Value) (Q : Exit -> Act -> World -> Prop)
  (hQ : ∀ (X : Nat) exp mant x' n, Valid X -> Q .ret (FB g X ov exp mant x') (w.drewN n)) :
  Code.wp Tryz.prog (rest141 0) (Exit.noGoto Q) (FB g 0 ov ((E : Int) - 1023) M x) w := by
 have cng := h.ng
 have c0 := env.c0
 have c1 := env.c1
 have c2 := env.c2
 clear h env
 conv => arg 2; whnf
 unfold FB
 go_wp2_with (go_step3)
 rw [bits_mask52 M hM]
 obtain ⟨f, hf⟩ : ∃ f, f = M % 4503599627370496 := ⟨_, rfl⟩
 have hf1 : f < 4503599627370496 := by omega
 rw [<- hf]
 have HF := Lib.hid hf
 clear hf
 have hor : bits BinOp.or IntKind.u64 (f : Int) (IntKind.u64.wrap (IntKind.u64.wrap (bits BinOp.and IntKind.i64 (E : Int) 2047) * 4503599627370496)) = ((E * 4503599627370496 + f : Nat) : Int) := by
  have h := bits_and2047 E (by omega)
  rw [Nat.mod_eq_of_lt (by omega)] at h
  rw [h, IntWalk.u64_in (E : Int) (by constructor <;> omega), IntWalk.u64_in _ (by constructor <;> omega)]
  exact or_exp f E hf1 (by omega)
 obtain ⟨R, hR⟩ : ∃ R, R = E * 4503599627370496 + f := ⟨_, rfl⟩
 have hR1 : R <= 9218868437227405312 := by
  by_cases h47 : E = 2047
  ·have := hEM h47; have := HF.out; omega
  ·omega
 rw [<- hR] at hor
 have HO := Lib.hid (And.intro hor (or_top R (by omega)))
 have HV := Lib.hid (fun neg => valid_sg neg R hR1)
 clear hor hR hR1 hEM hM
 go_quiet (fail)
 cases neg
 ·go_wp2_with fail
  rw [HO.out.1]
  exact of_xq (FB g R ov _ _) (fun x' => hQ R _ _ x' _ (by have := HV.out false; unfold sg at this; simpa using this)) _ rfl
 ·go_wp2_with fail
  rw [HO.out.1]
  go_quiet (fail)
  go_wp2_with fail
  rw [HO.out.2]
  exact of_xq (FB g ((9223372036854775808 + R : Nat) : Int) ov _ _) (fun x' => by rw [drewN_add]; exact hQ _ _ _ x' _ (HV.out true)) _ rfl
theorem fb_ovf (g : Nat) (D : Nat -> Nat) (nd : Nat) (dp : Int) (neg tr : Bool) (w : World) (h : Dec w g D nd dp neg tr) (env : FbEnv w g) (exp mant : Int) (x : Nat -> Value) (Q : Exit -> Act -> World -> Prop)
  (hQ : ∀ (X : Nat) exp mant x' n, Valid X -> Q .ret (FB g X true exp mant x') (w.drewN n)) :
  Code.wp Tryz.prog (rest141 1) (Exit.noGoto Q) (FB g 0 false exp mant x) w := by
 have cng := h.ng
 have c0 := env.c0
 have c1 := env.c1
 have c2 := env.c2
 clear h env
 obtain ⟨R, hR⟩ : ∃ R : Nat, R = 2047 * 4503599627370496 + 0 := ⟨_, rfl⟩
 have hor : bits BinOp.or IntKind.u64 0 (IntKind.u64.wrap (IntKind.u64.wrap (bits BinOp.and IntKind.i64 2047 2047) * 4503599627370496)) = (R : Int) := by
  rw [hR]
  have h := bits_and2047 2047 (by omega)
  rw [show ((2047 : Nat) : Int) = 2047 from rfl] at h
  rw [h]
  exact or_exp 0 2047 (by omega) (by omega)
 conv => arg 2; whnf
 unfold FB
 go_wp2_with (go_step3)
 go_quiet (fail)
 go_wp2_with (go_step3)
 rw [show bits BinOp.and IntKind.u64 0 4503599627370495 = 0 from by decide]
 obtain ⟨Y, hY⟩ : ∃ Y, Y = 9223372036854775808 + R := ⟨_, rfl⟩
 have hot := or_top R (by omega)
 rw [<- hY] at hot
 have HO := Lib.hid (And.intro hor hot)
 have HV : Hid (Valid R /\ Valid Y) := ⟨by have := valid_sg false R (by omega); unfold sg at this; simpa using this, by have := valid_sg true R (by omega); unfold sg at this; rw [hY]; simpa using this⟩
 clear hor hR hot hY
 go_quiet (fail)
 cases neg
 ·go_wp2_with fail
  rw [HO.out.1]
  exact of_xq (FB g R true 1024 0) (fun x' => hQ R _ _ x' _ HV.out.1) _ rfl
 ·go_wp2_with fail
  go_quiet (fail)
  go_wp2_with fail
  rw [HO.out.1, HO.out.2]
  exact of_xq (FB g Y true 1024 0) (fun x' => by rw [drewN_add]; exact hQ Y _ _ x' _ HV.out.2) _ rfl
theorem fb_r1 (g : Nat) (D : Nat -> Nat) (nd : Nat) (dp : Int) (neg tr : Bool) (w : World) (h : GD w g D nd dp neg tr) (env : FbEnv w g) (exp : Int) (he1 : -1000000 <= exp) (he2 : exp <= 1000000) (h1 : 0 < dp) (h2 : dp <= 400) (x : Nat -> Value) (K : Act -> World -> Prop) (Q : Exit -> Act -> World -> Prop)
  (hK : ∀ (n : Nat) x' w0 w', (n = if 9 <= dp then 27 else ptab dp.toNat) -> At g w w0 -> RightPost w0 g D dp neg n (.returned (.tuple #[])) w' -> K (FB g 0 false (exp + n) 0 x') w') :
  Code.wp Tryz.prog body141a (Exit.then K Q) (FB g 0 false exp 0 x) w := by
 have cdp := h.dec.dp
 obtain ⟨gh, oo, gc, gl, ct, ctab⟩ := env.tab
 conv => arg 2; whnf
 by_cases h9 : 9 <= dp
 ·have hsh := fun n => shiftR_any (w.drewN n) g D nd dp neg tr 27 ⟨h.dec.drewN n, h.pos, h.le, h.gd, h.first⟩ (by omega) (by omega) (by omega) (by omega)
  have HS := Lib.hid hsh
  have HK := Lib.hid (hK 27)
  have d9 : decide (9 <= dp) = true := decide_eq_true h9
  clear h hsh hK env ctab
  unfold FB
  go_wp2_with fail
  go_quiet (fail)
  go_wp2_with fail
  refine (HS.out _).mono ?_
  rintro e w' hp
  have HP := Lib.hid hp
  obtain ⟨rfl, -⟩ := hp
  go_wp2_with fail
  exact of_x (FB g 0 false (exp + 27) 0) (fun x' => HK.out x' _ _ (by rw [if_pos h9]) (At.drewN _ _ _) HP.out) _ rfl
 ·obtain ⟨i, hi⟩ : ∃ i : Nat, (i : Int) = dp := ⟨dp.toNat, by omega⟩
  subst hi
  have hi9 : i < 9 := by omega
  have ci := ctab i hi9
  have hpt := ptab_le i hi9
  obtain ⟨N, hN⟩ : ∃ N, N = ptab i := ⟨_, rfl⟩
  rw [<- hN] at ci hpt
  have hsh := fun n => shiftR_any (w.drewN n) g D nd i neg tr N ⟨h.dec.drewN n, h.pos, h.le, h.gd, h.first⟩ (by omega) (by omega) (by omega) (by omega)
  have HS := Lib.hid hsh
  have HK := Lib.hid (hK N)
  have HN := Lib.hid hN
  have hN1 : 1 <= N := hpt.1
  have hN2 : N <= 27 := hpt.2.1
  have d9 : decide (9 <= (i : Int)) = false := decide_eq_false h9
  have hiI : (i : Int) < 9 := by omega
  clear h hsh hK env ctab hpt hN
  unfold FB
  go_wp2_with fail
  go_quiet (fail)
  go_wp2_with fail
  go_quiet (fail)
  go_wp2_with fail
  refine (HS.out _).mono ?_
  rintro e w' hp
  have HP := Lib.hid hp
  obtain ⟨rfl, -⟩ := hp
  go_wp2_with fail
  exact of_x (FB g 0 false (exp + N) 0) (fun x' => HK.out x' _ _ (by rw [if_neg (by omega), HN.out]; rfl) (At.drewN _ _ _) HP.out) _ rfl
theorem fb_r1_stop (g : Nat) (D : Nat -> Nat) (nd : Nat) (dp : Int) (neg tr : Bool) (w : World) (h : GD w g D nd dp neg tr) (exp : Int) (h1 : dp <= 0) (x : Nat -> Value) (K : Act -> World -> Prop) (Q : Exit -> Act -> World -> Prop)
  (hQ : ∀ x', Q (.exit 0) (FB g 0 false exp 0 x') w) :
  Code.wp Tryz.prog body141a (Exit.then K Q) (FB g 0 false exp 0 x) w := by
 have cdp := h.dec.dp
 have d9 : decide (0 < dp) = false := decide_eq_false (by omega)
 conv => arg 2; whnf
 clear h
 unfold FB
 go_wp2_with fail
 exact of_xq (FB g 0 false exp 0) hQ _ rfl
end Go.Proofs.YtdfolbmoohcblaaGreatDoor
