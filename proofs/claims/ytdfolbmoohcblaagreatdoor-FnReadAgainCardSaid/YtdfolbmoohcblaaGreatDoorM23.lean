/-
For FnReadAgain, part 23: W7e W7f W7g W7h.
-/
import Derived.Test.YtdfolbmoohcblaaGreatDoorM22
set_option linter.all false
namespace Go.Proofs.YtdfolbmoohcblaaGreatDoor
set_option maxHeartbeats 8000000
set_option maxRecDepth 100000
open Go.RowKit
theorem fb_r2a (g : Nat) (D : Nat -> Nat) (nd : Nat) (dp : Int) (neg tr : Bool) (w : World) (h : GD w g D nd dp neg tr) (env : FbEnv w g) (exp : Int) (he1 : -1000000 <= exp) (he2 : exp <= 1000000) (h1 : dp <= -9) (h2 : -400 <= dp) (x : Nat -> Value) (K : Act -> World -> Prop) (Q : Exit -> Act -> World -> Prop)
  (hK : ∀ x' w0 w', At g w w0 -> LeftPost w0 g D nd dp neg 27 (.returned (.tuple #[])) w' -> K (FB g 0 false (exp - (27 : Nat)) 0 x') w') :
  Code.wp Tryz.prog body141b (Exit.then K Q) (FB g 0 false exp 0 x) w := by
 have cdp := h.dec.dp
 obtain ⟨gh, oo, gc, gl, ct, ctab⟩ := env.tab
 have hsh := fun n => shiftL_any (w.drewN n) g D nd dp neg tr 27 ⟨h.dec.drewN n, h.pos, h.le, h.gd, h.first⟩ (env.at (At.drewN g w n)).cht (by omega) (by omega) (by omega) (by omega)
 conv => arg 2; whnf
 have d0 : decide (dp < 0) = true := decide_eq_true (by omega)
 have d9 : decide (9 <= -dp) = true := decide_eq_true (by omega)
 have HS := Lib.hid hsh
 have HK := Lib.hid hK
 clear h hsh hK env ctab
 unfold FB
 go_wp2_with fail
 go_quiet (fail)
 go_wp2_with fail
 refine (HS.out _).mono ?_
 rintro e w' hp
 have HP := Lib.hid hp
 obtain ⟨rfl, -⟩ := hp
 go_wp2_with fail
 exact of_x (FB g 0 false (exp - 27) 0) (fun x' => HK.out x' _ _ (At.drewN _ _ _) HP.out) _ rfl
theorem fb_r2b (g : Nat) (D : Nat -> Nat) (nd : Nat) (i : Nat) (neg tr : Bool) (w : World) (h : GD w g D nd (-(i : Int)) neg tr) (env : FbEnv w g) (exp : Int) (he1 : -1000000 <= exp) (he2 : exp <= 1000000) (hi0 : 0 < i) (hi9 : i < 9) (x : Nat -> Value) (K : Act -> World -> Prop) (Q : Exit -> Act -> World -> Prop)
  (hK : ∀ (N : Nat) x' w0 w', N = ptab i -> At g w w0 -> LeftPost w0 g D nd (-(i : Int)) neg N (.returned (.tuple #[])) w' -> K (FB g 0 false (exp - N) 0 x') w') :
  Code.wp Tryz.prog body141b (Exit.then K Q) (FB g 0 false exp 0 x) w := by
 have cdp := h.dec.dp
 obtain ⟨gh, oo, gc, gl, ct, ctab⟩ := env.tab
 have ci := ctab i hi9
 have hpt := ptab_le i hi9
 obtain ⟨N, hN⟩ : ∃ N, N = ptab i := ⟨_, rfl⟩
 rw [<- hN] at ci hpt
 have hsh := fun n => shiftL_any (w.drewN n) g D nd (-(i : Int)) neg tr N ⟨h.dec.drewN n, h.pos, h.le, h.gd, h.first⟩ (env.at (At.drewN g w n)).cht (by omega) (by omega) (by omega) (by omega)
 conv => arg 2; whnf
 have d0 : decide (-(i : Int) < 0) = true := decide_eq_true (by omega)
 have d0' : decide (0 < i) = true := decide_eq_true (by omega)
 have d9 : decide (9 <= i) = false := decide_eq_false (by omega)
 have d9' : decide (9 <= (i : Int)) = false := decide_eq_false (by omega)
 have hiI : (i : Int) < 9 := by omega
 have HS := Lib.hid hsh
 have HK := Lib.hid (hK N)
 have HN := Lib.hid hN
 have hN1 : 1 <= N := hpt.1
 have hN2 : N <= 27 := hpt.2.1
 clear h hsh hK env ctab hpt hN
 unfold FB
 go_wp2_with fail
 go_quiet (fail)
 go_wp2_with fail
 go_quiet (fail)
 go_wp2_with fail
 refine (HS.out _).mono ?_
 rintro e w' hp
 have HP := Lib.hid hp
 obtain ⟨rfl, -⟩ := hp
 go_wp2_with fail
 exact of_x (FB g 0 false (exp - N) 0) (fun x' => HK.out x' _ _ HN.out (At.drewN _ _ _) HP.out) _ rfl
theorem fb_r2c (g : Nat) (D : Nat -> Nat) (nd : Nat) (neg tr : Bool) (w : World) (h : GD w g D nd 0 neg tr) (env : FbEnv w g) (exp : Int) (he1 : -1000000 <= exp) (he2 : exp <= 1000000) (hlow : D 0 < 53) (x : Nat -> Value) (K : Act -> World -> Prop) (Q : Exit -> Act -> World -> Prop)
  (hK : ∀ x' w0 w', At g w w0 -> LeftPost w0 g D nd 0 neg 1 (.returned (.tuple #[])) w' -> K (FB g 0 false (exp - (1 : Nat)) 0 x') w') :
  Code.wp Tryz.prog body141b (Exit.then K Q) (FB g 0 false exp 0 x) w := by
 have cdp := h.dec.dp
 have cd0 := h.dec.d 0 (by omega)
 obtain ⟨gh, oo, gc, gl, ct, ctab⟩ := env.tab
 have ci := ctab 0 (by omega)
 rw [show ptab 0 = 1 from rfl, Nat.add_zero] at ci
 have hsh := fun n => shiftL_any (w.drewN n) g D nd 0 neg tr 1 ⟨h.dec.drewN n, h.pos, h.le, h.gd, h.first⟩ (env.at (At.drewN g w n)).cht (by omega) (by omega) (by omega) (by omega)
 conv => arg 2; whnf
 have d0 : decide (D 0 < 53) = true := decide_eq_true hlow
 have HS := Lib.hid hsh
 have HK := Lib.hid hK
 clear h hsh hK env ctab
 unfold FB
 go_wp2_with fail
 go_quiet (fail)
 go_wp2_with fail
 go_quiet (fail)
 go_wp2_with fail
 refine (HS.out _).mono ?_
 rintro e w' hp
 have HP := Lib.hid hp
 obtain ⟨rfl, -⟩ := hp
 go_wp2_with fail
 exact of_x (FB g 0 false (exp - 1) 0) (fun x' => HK.out x' _ _ (At.drewN _ _ _) HP.out) _ rfl
theorem fb_r2_stop (g : Nat) (D : Nat -> Nat) (nd : Nat) (neg tr : Bool) (w : World) (h : GD w g D nd 0 neg tr) (exp : Int) (hlow : 53 <= D 0) (x : Nat -> Value) (K : Act -> World -> Prop) (Q : Exit -> Act -> World -> Prop)
  (hQ : ∀ x', Q (.exit 2) (FB g 0 false exp 0 x') w) :
  Code.wp Tryz.prog body141b (Exit.then K Q) (FB g 0 false exp 0 x) w := by
 have cdp := h.dec.dp
 have cd0 := h.dec.d 0 (by omega)
 have d0 : decide (D 0 < 53) = false := decide_eq_false (by omega)
 conv => arg 2; whnf
 clear h
 unfold FB
 go_wp2_with fail
 exact of_xq (FB g 0 false exp 0) hQ _ rfl
def flg (D : Nat -> Nat) : Int := if 56 <= D 0 then 1 else 0
def I1 (g : Nat) (neg : Bool) (w : World) (k : Nat) (a : Act) (w' : World) : Prop :=
 ∃ (D : Nat -> Nat) (nd : Nat) (dp : Int) (tr : Bool) (exp : Int) (x : Nat -> Value), GD w' g D nd dp neg tr /\ At g w w' /\ -330 <= dp /\ dp <= 310 /\ 0 <= exp /\ exp + 27 * k <= 19000 /\ k = (2 * dp + flg D).toNat /\ FB g 0 false exp 0 x = a
theorem fb_loop1 (g : Nat) (D : Nat -> Nat) (nd : Nat) (dp : Int) (neg tr : Bool) (w : World) (h : GD w g D nd dp neg tr) (env : FbEnv w g) (h1 : -330 <= dp) (h2 : dp <= 310) (x : Nat -> Value) (Q : Exit -> Act -> World -> Prop)
  (hexit : ∀ (D' : Nat -> Nat) nd' dp' tr' exp x' w', GD w' g D' nd' dp' neg tr' -> At g w w' -> -330 <= dp' -> dp' <= 0 -> 0 <= exp -> exp <= 19000 -> Q (.exit 0) (FB g 0 false exp 0 x') w') :
  Code.wp Tryz.prog (Code.loop body141a) Q (FB g 0 false 0 0 x) w := by
 have hf0 : 0 <= flg D /\ flg D <= 1 := by unfold flg; split <;> omega
 refine wp_loop_ghost (I1 g neg w) (2 * dp + flg D).toNat ⟨D, nd, dp, tr, 0, x, h, At.refl _ _, h1, h2, by omega, by omega, rfl, rfl⟩ ?_
 clear h h1 h2 hf0
 rintro k a w' ⟨D, nd, dp, tr, exp, x, h, hat, h1, h2, he1, he2, hk, rfl⟩
 by_cases hp : 0 < dp
 ·refine fb_r1 g D nd dp neg tr w' h (env.at hat) exp (by omega) (by omega) hp (by omega) x _ Q ?_
  rintro n x' w0 w1 hn hat0 ⟨-, r, n0, D', n', tr', r1, r20, hge, hlt, hone, hdec, hat1, hgd, hpos, hle, hd0, hfirst⟩
  have hat2 : At g w w1 := (hat.trans hat0).trans hat1
  have hn3 : 3 <= n /\ n <= 27 := by
   by_cases h9 : 9 <= dp
   ·rw [if_pos h9] at hn; omega
   ·rw [if_neg h9] at hn
    have := ptab_le dp.toNat (by omega)
    rw [hn]; omega
  have hf : 0 <= flg D' /\ flg D' <= 1 := by unfold flg; split <;> omega
  have hf' : 0 <= flg D /\ flg D <= 1 := by unfold flg; split <;> omega
  have key : 2 * (dp - ((r : Int) - 1)) + flg D' < 2 * dp + flg D := by
   by_cases hr : r = 1
   ·subst hr
    have hn0 := hone rfl
    have h8 : 2 ^ 3 <= 2 ^ n := Nat.pow_le_pow_right (by decide) hn3.1
    have hD : 56 <= D 0 := by omega
    have hq : n0 / 2 ^ n <= n0 / 2 ^ 3 := Nat.div_le_div_left h8 (by decide)
    have hD' : ¬ 56 <= D' 0 := by omega
    unfold flg; rw [if_pos hD, if_neg hD']; omega
   ·omega
  exact ⟨(2 * (dp - ((r : Int) - 1)) + flg D').toNat, by omega, D', n', _, tr', exp + n, x', ⟨hdec, hpos, hle, hgd, hfirst⟩, hat2, by omega, by omega, by omega, by omega, rfl, rfl⟩
 ·exact fb_r1_stop g D nd dp neg tr w' h exp (by omega) x _ Q (fun x' => hexit D nd dp tr exp x' w' h hat h1 (by omega) he1 (by omega))
def I2 (g : Nat) (neg : Bool) (w : World) (k : Nat) (a : Act) (w' : World) : Prop :=
 ∃ (D : Nat -> Nat) (nd : Nat) (dp : Int) (tr : Bool) (exp : Int) (x : Nat -> Value), GD w' g D nd dp neg tr /\ At g w w' /\ -330 <= dp /\ dp <= 0 /\ exp <= 19000 /\ -89600 <= exp - 27 * k /\ k = (10 * (-dp) + (57 - (D 0 : Int))).toNat /\ FB g 0 false exp 0 x = a
theorem cutD27 : cutD 27 <= 9 := by decide +kernel
theorem cutT1 : cutT 1 = [53] := by decide +kernel
theorem cutD1 : cutD 1 = 1 := by decide +kernel
theorem fb_loop2 (g : Nat) (D : Nat -> Nat) (nd : Nat) (dp : Int) (neg tr : Bool) (w : World) (h : GD w g D nd dp neg tr) (env : FbEnv w g) (h1 : -330 <= dp) (h2 : dp <= 0) (exp : Int) (he1 : 0 <= exp) (he2 : exp <= 19000) (x : Nat -> Value) (Q : Exit -> Act -> World -> Prop)
  (hexit : ∀ (D' : Nat -> Nat) nd' tr' exp x' w', GD w' g D' nd' 0 neg tr' -> At g w w' -> -89600 <= exp -> exp <= 19000 -> Q (.exit 2) (FB g 0 false exp 0 x') w') :
  Code.wp Tryz.prog (Code.loop body141b) Q (FB g 0 false exp 0 x) w := by
 have hg0 := h.gd 0 h.pos
 refine wp_loop_ghost (I2 g neg w) (10 * (-dp) + (57 - (D 0 : Int))).toNat ⟨D, nd, dp, tr, exp, x, h, At.refl _ _, h1, h2, by omega, by omega, rfl, rfl⟩ ?_
 clear h h1 h2 he1 he2 hg0
 rintro k a w' ⟨D, nd, dp, tr, exp, x, h, hat, h1, h2, he1, he2, hk, rfl⟩
 have hg0 := h.gd 0 h.pos
 have hf0 := h.first
 have step : ∀ (n : Nat) (x' : Nat -> Value) (w0 w1 : World), n <= 27 -> cutD n <= (if dp = 0 then 1 else -dp) -> (dp = 0 -> n = 1 /\ D 0 < 53) -> At g w' w0 -> LeftPost w0 g D nd dp neg n (.returned (.tuple #[])) w1 -> ∃ n', n' < k /\ I2 g neg w n' (FB g 0 false (exp - n) 0 x') w1 := by
  rintro n x' w0 w1 hn27 hcut hz hat0 ⟨-, d, D', n', tr', hd, hdec, hat1, hgd, hpos, hle, hfirst, hgrow⟩
  have hat2 : At g w w1 := (hat.trans hat0).trans hat1
  have hg1 := hgd 0 hpos
  have hdn : (d : Int) <= cutD n := by rw [hd]; split <;> omega
  have hd0 : dp = 0 -> d = 0 := by
   intro h0
   obtain ⟨rfl, hlt⟩ := hz h0
   rw [hd, cutT1, cutD1]
   have : pil D nd [53] 0 = true := by
    unfold pil
    rw [if_neg (by have := h.pos; omega)]
    have h53 : (53 : UInt8).toNat = 53 := rfl
    rw [if_neg (by rw [h53]; omega), decide_eq_true_eq, h53]; exact hlt
   rw [this]; rfl
  have hdp' : dp + d <= 0 := by
   by_cases h0 : dp = 0
   ·have := hd0 h0; omega
   ·rw [if_neg h0] at hcut; omega
  have key : 10 * (-(dp + d)) + (57 - (D' 0 : Int)) < 10 * (-dp) + (57 - (D 0 : Int)) := by
   by_cases hz0 : d = 0
   ·have := hgrow hz0; omega
   ·omega
  exact ⟨(10 * (-(dp + d)) + (57 - (D' 0 : Int))).toNat, by omega, D', n', _, tr', exp - n, x', ⟨hdec, hpos, hle, hgd, hfirst⟩, hat2, by omega, hdp', by omega, by omega, rfl, rfl⟩
 by_cases ha : dp <= -9
 ·refine fb_r2a g D nd dp neg tr w' h (env.at hat) exp (by omega) (by omega) ha (by omega) x _ Q ?_
  intro x' w0 w1 hat0 hl
  exact step 27 x' w0 w1 (by omega) (by rw [if_neg (by omega)]; have := cutD27; omega) (by omega) hat0 hl
 ·by_cases hb : dp < 0
  ·obtain ⟨i, hi⟩ : ∃ i : Nat, -(i : Int) = dp := ⟨(-dp).toNat, by omega⟩
   subst hi
   refine fb_r2b g D nd i neg tr w' h (env.at hat) exp (by omega) (by omega) (by omega) (by omega) x _ Q ?_
   intro N x' w0 w1 hN hat0 hl
   have hpt := ptab_le i (by omega)
   rw [<- hN] at hpt
   exact step N x' w0 w1 hpt.2.1 (by rw [if_neg (by omega)]; have := (hpt.2.2 (by omega)).2; omega) (by omega) hat0 hl
  ·have h0 : dp = 0 := by omega
   subst h0
   by_cases hlow : D 0 < 53
   ·refine fb_r2c g D nd neg tr w' h (env.at hat) exp (by omega) (by omega) hlow x _ Q ?_
    intro x' w0 w1 hat0 hl
    exact step 1 x' w0 w1 (by omega) (by rw [if_pos rfl, cutD1]; omega) (fun _ => ⟨rfl, hlow⟩) hat0 hl
   ·exact fb_r2_stop g D nd neg tr w' h exp (by omega) x _ Q (fun x' => hexit D nd tr exp x' w' h hat (by omega) he1)
theorem bits_and_any (a : Nat) (ha : a < 18446744073709551616) : ∃ b : Nat, bits .and .u64 (a : Int) 4503599627370496 = (b : Int) := ⟨_, by rw [show (4503599627370496 : Int) = ((4503599627370496 : Nat) : Int) from rfl]; exact bits_and_u64 a _ ha (by omega)⟩
theorem LeftPost.gd {w w' : World} {g : Nat} {D : Nat -> Nat} {nd : Nat} {dp : Int} {neg : Bool} {k : Nat} {e : Ending} (h : LeftPost w g D nd dp neg k e w') (hk : cutD k <= 30) : ∃ (D' : Nat -> Nat) (n' : Nat) (dp' : Int) (tr' : Bool), GD w' g D' n' dp' neg tr' /\ At g w w' /\ dp <= dp' /\ dp' <= dp + 30 := by
 obtain ⟨-, d, D', n', tr', hd, hdec, hat, hgd, hpos, hle, hf, -⟩ := h
 have : d <= cutD k := by rw [hd]; split <;> omega
 exact ⟨D', n', _, tr', ⟨hdec, hpos, hle, hgd, hf⟩, hat, by omega, by omega⟩
theorem fb_tail (g : Nat) (D : Nat -> Nat) (nd : Nat) (neg tr : Bool) (w : World) (h : GD w g D nd 0 neg tr) (env : FbEnv w g) (exp : Int) (he1 : -89600 <= exp) (he2 : exp <= 19000) (x : Nat -> Value) (Q : Exit -> Act -> World -> Prop)
  (h0 : ∀ (e : Int) (M : Nat) x' D' nd' dp' tr' w', -1023 <= e -> e <= 1023 -> M < 18446744073709551616 -> GD w' g D' nd' dp' neg tr' -> At g w w' -> Q (.goto 0) (FB g 0 false e M x') w')
  (h1 : ∀ exp mant x' D' nd' dp' tr' w', GD w' g D' nd' dp' neg tr' -> At g w w' -> Q (.goto 1) (FB g 0 false exp mant x') w') :
  Code.wp Tryz.prog tail141 Q (FB g 0 false exp 0 x) w := by
 have c0 := env.c0
 have c1 := env.c1
 have c2 := env.c2
 have HE := Lib.hid env
 have H0 := Lib.hid h0
 have H1 := Lib.hid h1
 have HG := Lib.hid h
 have hsh0 := fun n => shiftL_any (w.drewN n) g D nd 0 neg tr 53 ⟨h.dec.drewN n, h.pos, h.le, h.gd, h.first⟩ (env.at (At.drewN g w n)).cht (by omega) (by omega) (by omega) (by omega)
 clear h h0 h1 env
 conv => arg 2; whnf
 by_cases hs : exp - 1 < -1022
 ·clear hsh0
  obtain ⟨k, hk⟩ : ∃ k : Nat, (k : Int) = -1022 - (exp - 1) := ⟨(-1022 - (exp - 1)).toNat, by omega⟩
  have hfar := shiftFar_any w g D nd 0 neg tr k HG.out (by omega) (by omega) (by omega) (by omega)
  rw [hk] at hfar
  have HF := Lib.hid hfar
  have HK : Hid ((k : Int) = -1022 - (exp - 1) /\ k <= 90000) := ⟨hk, by omega⟩
  clear hfar hk
  unfold FB
  go_wp2_with fail
  refine HF.out.mono ?_
  rintro e w1 ⟨rfl, D1, n1, dp1, tr1, g1, a1, b1, b2⟩
  have env1 := HE.out.at a1
  have c0' := env1.c0
  have c1' := env1.c1
  have c2' := env1.c2
  have hsh := fun n => shiftL_any (w1.drewN n) g D1 n1 dp1 neg tr1 53 ⟨g1.dec.drewN n, g1.pos, g1.le, g1.gd, g1.first⟩ (env1.at (At.drewN g w1 n)).cht (by omega) (by omega) (by have := HK.out; omega) (by omega)
  have HS := Lib.hid hsh
  have HX := Lib.hid (And.intro a1 (And.intro b1 b2))
  clear c0 c1 c2 hsh a1 b1 b2 env1 g1
  go_wp2_with fail
  go_quiet (fail)
  go_wp2_with fail
  refine (HS.out _).mono ?_
  rintro e w2 hl
  obtain ⟨D2, n2, dp2, tr2, g2, a2, b3, b4⟩ := hl.gd (cut_ok (k := 53) (by omega) (by omega)).2.2
  obtain ⟨rfl, -⟩ := hl
  have hat2 : At g w w2 := HX.out.1.trans ((At.drewN _ _ _).trans a2)
  have env2 := HE.out.at hat2
  have c0 := env2.c0
  have c1 := env2.c1
  have c2 := env2.c2
  have hro := rounded_any w2 g D2 n2 dp2 neg tr2 g2 (by have := HK.out; have := HX.out; omega) (by have := HK.out; have := HX.out; omega)
  have HR := Lib.hid hro
  have HY := Lib.hid (And.intro hat2 g2)
  clear hro hat2 env2 g2 a2 b3 b4 c0' c1' c2'
  go_wp2_with fail
  refine HR.out.mono ?_
  rintro e w3 ⟨⟨M, hM, rfl⟩, rfl⟩
  clear HR
  by_cases hbig : M = 9007199254740992
  ·subst hbig
   have hbb : bits .and .u64 4503599627370496 4503599627370496 = 4503599627370496 := by decide
   go_wp2_with fail
   go_quiet (fail)
   go_wp2_with (go_step3)
   all_goals first
   | exact of_xq (FB g 0 false (exp - 1 + (-1022 - (exp - 1)) + 1) ((4503599627370496 : Nat) : Int)) (fun x' => H0.out _ _ x' _ _ _ _ _ (by omega) (by omega) (by omega) (⟨HY.out.2.dec.drewN _, HY.out.2.pos, HY.out.2.le, HY.out.2.gd, HY.out.2.first⟩) (HY.out.1.trans (At.drewN _ _ _))) _ rfl
   | exact of_xq (FB g 0 false _ _) (fun x' => H1.out _ _ x' _ _ _ _ _ (⟨HY.out.2.dec.drewN _, HY.out.2.pos, HY.out.2.le, HY.out.2.gd, HY.out.2.first⟩) (HY.out.1.trans (At.drewN _ _ _))) _ rfl
  ·have hb : ((M : Int) == 9007199254740992) = false := by rw [beq_eq_false_iff_ne]; omega
   obtain ⟨b, hbe⟩ := bits_and_any M hM
   by_cases hb0 : b = 0
   ·have hb1 : ((b : Int) == 0) = true := by rw [beq_iff_eq]; omega
    clear hb0 hbig
    go_wp2_with (go_step3)
    exact of_xq (FB g 0 false (-1023) M) (fun x' => H0.out _ _ x' _ _ _ _ _ (by omega) (by omega) hM HY.out.2 HY.out.1) _ rfl
   ·have hb1 : ((b : Int) == 0) = false := by rw [beq_eq_false_iff_ne]; omega
    clear hb0 hbig
    go_wp2_with (go_step3)
    exact of_xq (FB g 0 false (exp - 1 + (-1022 - (exp - 1))) M) (fun x' => H0.out _ _ x' _ _ _ _ _ (by omega) (by omega) hM HY.out.2 HY.out.1) _ rfl
 ·have HX : Hid (At g w w /\ True) := ⟨At.refl _ _, trivial⟩
  have HS := Lib.hid hsh0
  clear hsh0
  by_cases hov : 2047 <= exp - 1 + 1023
  ·have dov : decide (2047 <= exp - 1 + 1023) = true := decide_eq_true hov
   unfold FB
   go_wp2_with fail
   go_quiet (fail)
   go_wp2_with (go_step3)
   exact of_xq (FB g 0 false _ _) (fun x' => H1.out _ _ x' _ _ _ _ _ (⟨HG.out.dec.drewN _, HG.out.pos, HG.out.le, HG.out.gd, HG.out.first⟩) (At.drewN _ _ _)) _ rfl
  ·have dov : decide (2047 <= exp - 1 + 1023) = false := decide_eq_false hov
   unfold FB
   go_wp2_with fail
   go_quiet (fail)
   go_wp2_with fail
   refine (HS.out _).mono ?_
   rintro e w2 hl
   obtain ⟨D2, n2, dp2, tr2, g2, a2, b3, b4⟩ := hl.gd (cut_ok (k := 53) (by omega) (by omega)).2.2
   obtain ⟨rfl, -⟩ := hl
   have hat2 : At g w w2 := HX.out.1.trans ((At.drewN _ _ _).trans a2)
   have env2 := HE.out.at hat2
   have c0 := env2.c0
   have c1 := env2.c1
   have c2 := env2.c2
   have hro := rounded_any w2 g D2 n2 dp2 neg tr2 g2 (by have := HX.out; omega) (by have := HX.out; omega)
   have HR := Lib.hid hro
   have HY := Lib.hid (And.intro hat2 g2)
   clear hro hat2 env2 g2 a2 b3 b4
   go_wp2_with fail
   refine HR.out.mono ?_
   rintro e w3 ⟨⟨M, hM, rfl⟩, rfl⟩
   clear HR
   by_cases hbig : M = 9007199254740992
   ·subst hbig
    have hbb : bits .and .u64 4503599627370496 4503599627370496 = 4503599627370496 := by decide
    go_wp2_with fail
    go_quiet (fail)
    go_wp2_with (go_step3)
    all_goals first
    | exact of_xq (FB g 0 false (exp) ((4503599627370496 : Nat) : Int)) (fun x' => H0.out _ _ x' _ _ _ _ _ (by omega) (by omega) (by omega) (⟨HY.out.2.dec.drewN _, HY.out.2.pos, HY.out.2.le, HY.out.2.gd, HY.out.2.first⟩) (HY.out.1.trans (At.drewN _ _ _))) _ rfl
    | exact of_xq (FB g 0 false _ _) (fun x' => H1.out _ _ x' _ _ _ _ _ (⟨HY.out.2.dec.drewN _, HY.out.2.pos, HY.out.2.le, HY.out.2.gd, HY.out.2.first⟩) (HY.out.1.trans (At.drewN _ _ _))) _ rfl
   ·have hb : ((M : Int) == 9007199254740992) = false := by rw [beq_eq_false_iff_ne]; omega
    obtain ⟨b, hbe⟩ := bits_and_any M hM
    by_cases hb0 : b = 0
    ·have hb1 : ((b : Int) == 0) = true := by rw [beq_iff_eq]; omega
     clear hb0 hbig
     go_wp2_with (go_step3)
     exact of_xq (FB g 0 false (-1023) M) (fun x' => H0.out _ _ x' _ _ _ _ _ (by omega) (by omega) hM HY.out.2 HY.out.1) _ rfl
    ·have hb1 : ((b : Int) == 0) = false := by rw [beq_eq_false_iff_ne]; omega
     clear hb0 hbig
     go_wp2_with (go_step3)
     exact of_xq (FB g 0 false (exp - 1) M) (fun x' => H0.out _ _ x' _ _ _ _ _ (by omega) (by omega) hM HY.out.2 HY.out.1) _ rfl
def FbPost (g : Nat) (w : World) (e : Ending) (w' : World) : Prop := (∃ (X : Nat) (ov : Bool), Valid X /\ e = .returned (.tuple #[.int .u64 X, .bool ov])) /\ At g w w'
theorem fb_ret {g : Nat} {w w' : World} {X : Nat} {ov : Bool} {exp mant : Int} {x : Nat -> Value} (hv : Valid X) (ha : At g w w') : bodyPost Tryz.prog Tryz.f141 (FbPost g w) .ret (FB g X ov exp mant x) w' :=
 ⟨rfl, .tuple #[.int .u64 X, .bool ov], by unfold FB; simp [results, Tryz.results141, go_sem], ⟨X, ov, hv, rfl⟩, ha⟩
def J141 (g : Nat) (neg : Bool) (w : World) (l : Nat) (a : Act) (w' : World) : Prop :=
 (l = 0 /\ ∃ (e : Int) (M : Nat) (x : Nat -> Value) (D : Nat -> Nat) (nd : Nat) (dp : Int) (tr : Bool), -1023 <= e /\ e <= 1023 /\ M < 18446744073709551616 /\ Dec w' g D nd dp neg tr /\ At g w w' /\ a = FB g 0 false e M x) \/
 (l = 1 /\ ∃ (exp mant : Int) (x : Nat -> Value) (D : Nat -> Nat) (nd : Nat) (dp : Int) (tr : Bool), Dec w' g D nd dp neg tr /\ At g w w' /\ a = FB g 0 false exp mant x)
theorem find0 : findLabel c141 0 = some (rest141 0) := by kernel_rfl
theorem find1 : findLabel c141 1 = some (rest141 1) := by kernel_rfl
theorem pass141 (g : Nat) (neg : Bool) (w : World) (env : FbEnv w g) (l : Nat) (a : Act) (w' : World) (h : J141 g neg w l a w') : ∃ rest, findLabel c141 l = some rest /\ rest.wp Tryz.prog (Exit.noGoto (bodyPost Tryz.prog Tryz.f141 (FbPost g w))) a w' := by
 rcases h with ⟨rfl, e, M, x, D, nd, dp, tr, h1, h2, hM, hdec, hat, rfl⟩ | ⟨rfl, exp, mant, x, D, nd, dp, tr, hdec, hat, rfl⟩
 ·refine ⟨rest141 0, find0, ?_⟩
  have := fb_out g D nd dp neg tr w' hdec (env.at hat) false (e + 1023).toNat M (by omega) (by omega) hM x (bodyPost Tryz.prog Tryz.f141 (FbPost g w)) (fun X exp mant x' n hv => fb_ret hv (hat.trans (At.drewN _ _ _)))
  rw [show (((e + 1023).toNat : Nat) : Int) - 1023 = e from by omega] at this
  exact this
 ·exact ⟨rest141 1, find1, fb_ovf g D nd dp neg tr w' hdec (env.at hat) exp mant x _ (fun X exp mant x' n hv => fb_ret hv (hat.trans (At.drewN _ _ _)))⟩
theorem fb_loop1_L (g : Nat) (D : Nat -> Nat) (nd : Nat) (dp : Int) (neg tr : Bool) (w : World) (h : GD w g D nd dp neg tr) (env : FbEnv w g) (h1 : -330 <= dp) (h2 : dp <= 310) (Q : Exit -> Act -> World -> Prop) (L : List Value)
  (hL : FB g 0 false 0 0 (fun k => L.getD k undef) = ⟨L.toArray, []⟩)
  (hexit : ∀ (D' : Nat -> Nat) nd' dp' tr' exp x' w', GD w' g D' nd' dp' neg tr' -> At g w w' -> -330 <= dp' -> dp' <= 0 -> 0 <= exp -> exp <= 19000 -> Q (.exit 0) (FB g 0 false exp 0 x') w') :
  Code.wp Tryz.prog (Code.loop body141a) Q ⟨L.toArray, []⟩ w := hL ▸ fb_loop1 g D nd dp neg tr w h env h1 h2 _ Q hexit
theorem floatBits_any (w : World) (g : Nat) (D : Nat -> Nat) (nd : Nat) (dp : Int) (neg tr : Bool) (h : Dec w g D nd dp neg tr) (hz : nd = 0 \/ GD w g D nd dp neg tr) (env : FbEnv w g) :
  Calls Tryz.prog 141 #[.pointer (some ⟨g, 0, none⟩), .pointer (some ⟨14, 0, none⟩)] w (FbPost g w) := by
 have cn := h.nd
 have cdp := h.dp
 have c2 := env.c2
 have HH := Lib.hid (And.intro h env)
 have HZ := Lib.hid hz
 clear h hz env
 go_enter Tryz.func141, Tryz.ntmps141
 go_wp2_with fail
 refine wp_scope_outs (J141 g neg w) ?_ (fun l a w' hj => pass141 g neg w HH.out.2 l a w' hj)
 by_cases h0 : nd = 0
 ·subst h0
  go_wp2_with (go_step3)
  refine of_xq (Q := jumps (J141 g neg w) _) (FB g 0 false (-1023) 0) (fun x' => ?_) _ rfl
  exact Or.inl ⟨rfl, -1023, 0, x', D, 0, dp, tr, by omega, by omega, by omega, HH.out.1, At.refl _ _, rfl⟩
 ·have b0 : ((nd : Int) == 0) = false := by rw [beq_eq_false_iff_ne]; omega
  by_cases hhi : 310 < dp
  ·go_wp2_with (go_step3)
   refine of_xq (Q := jumps (J141 g neg w) _) (FB g 0 false 0 0) (fun x' => ?_) _ rfl
   exact Or.inr ⟨rfl, 0, 0, x', D, nd, dp, tr, HH.out.1, At.refl _ _, rfl⟩
  ·by_cases hlo : dp < -330
   ·go_wp2_with (go_step3)
    refine of_xq (Q := jumps (J141 g neg w) _) (FB g 0 false (-1023) 0) (fun x' => ?_) _ rfl
    exact Or.inl ⟨rfl, -1023, 0, x', D, nd, dp, tr, by omega, by omega, by omega, HH.out.1, At.refl _ _, rfl⟩
   ·have hgd : GD w g D nd dp neg tr := HZ.out.resolve_left h0
    have HG := Lib.hid hgd
    clear hgd
    go_upto_block 0 with fail
    go_step
    refine fb_loop1_L g D nd dp neg tr w HG.out HH.out.2 (by omega) (by omega) _ _ rfl ?_
    intro D1 n1 dp1 tr1 exp x1 w1 g1 a1 e1 e2 e3 e4
    clear cn cdp c2 b0 hhi hlo h0
    go_step
    go_step
    go_step
    go_step
    refine fb_loop2 g D1 n1 dp1 neg tr1 w1 g1 (HH.out.2.at a1) e1 e2 exp e3 e4 x1 _ ?_
    intro D2 n2 tr2 exp2 x2 w2 g2 a2 f1 f2
    go_step
    go_step
    refine fb_tail g D2 n2 neg tr2 w2 g2 (HH.out.2.at (a1.trans a2)) exp2 f1 f2 x2 _ ?_ ?_
    ·intro e M x' D' nd' dp' tr' w' l1 l2 l3 gd at'
     exact Or.inl ⟨rfl, e, M, x', D', nd', dp', tr', l1, l2, l3, gd.dec, (a1.trans a2).trans at', rfl⟩
    ·intro exp mant x' D' nd' dp' tr' w' gd at'
     exact Or.inr ⟨rfl, exp, mant, x', D', nd', dp', tr', gd.dec, (a1.trans a2).trans at', rfl⟩
end Go.Proofs.YtdfolbmoohcblaaGreatDoor
