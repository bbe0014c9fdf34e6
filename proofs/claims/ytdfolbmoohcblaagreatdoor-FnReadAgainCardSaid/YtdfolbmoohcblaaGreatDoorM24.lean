/-
For FnReadAgain, part 24: W7i.
-/
import Derived.Test.YtdfolbmoohcblaaGreatDoorM23
import Derived.RegionTactic
import Derived.ChangeAlike
set_option linter.all false
namespace Go.Proofs.YtdfolbmoohcblaaGreatDoor
set_option maxHeartbeats 8000000
set_option maxRecDepth 100000
open Go.RowKit
structure SI (w : World) (g : Nat) (D : Nat -> Nat) (nd : Nat) (dp : Int) (neg tr : Bool) (B : Nat) : Prop where
 dec : Dec w g D nd dp neg tr
 le : nd <= 800
 gd : Gd D nd
 first : 0 < nd -> 49 <= D 0
 lo : -(B : Int) <= dp
 hi : dp <= B
def SetPost (w : World) (g : Nat) (e : Ending) (w' : World) : Prop :=
 ∃ (ok : Bool) (D : Nat -> Nat) (nd : Nat) (dp : Int) (neg tr : Bool), e = .returned (.bool ok) /\ Dec w' g D nd dp neg tr /\ At g w w' /\ (nd = 0 \/ GD w' g D nd dp neg tr)
theorem SI.post {w w' : World} {g : Nat} {D : Nat -> Nat} {nd : Nat} {dp : Int} {neg tr : Bool} {B : Nat} (h : SI w' g D nd dp neg tr B) (hat : At g w w') (ok : Bool) : SetPost w g (.returned (.bool ok)) w' := by
 refine ⟨ok, D, nd, dp, neg, tr, rfl, h.dec, hat, ?_⟩
 rcases Nat.eq_zero_or_pos nd with h0 | h0
 ·exact .inl h0
 ·exact .inr ⟨h.dec, h0, h.le, h.gd, h.first h0⟩
def SL (w : World) (g : Nat) (n : Nat) (v5 v6 v7 : Value) (wr : World) : Prop :=
 ∃ (i : Nat) (b6 b7 : Bool) (D : Nat -> Nat) (nd : Nat) (dp : Int) (neg tr : Bool), i <= n /\ v5 = .int .i64 i /\ v6 = .bool b6 /\ v7 = .bool b7 /\ SI wr g D nd dp neg tr (i + 800) /\ At g w wr
theorem set_any (w : World) (g : Nat) (s : ByteArray) (neg tr : Bool) (hs : s.size <= 1099511627776) (h : Dec w g (fun _ => 0) 0 0 neg tr) :
  Calls Tryz.prog 140 #[.pointer (some ⟨g, 0, none⟩), .string s] w (SetPost w g) := by
 have uf := fun i => h.unfrozen i
 have uf2 := h.unfrozen 802
 have uf3 := h.unfrozen 803
 have cng := h.ng
 have ctr := h.trc
 have HH := Lib.hid h
 clear h uf
 by_cases h0 : s.size = 0
 ·go_enter Tryz.func140, Tryz.ntmps140
  as_aux_lemma =>
   go_wp2_with fail
   go_returns
   exact ⟨false, fun _ => 0, 0, 0, false, false, rfl, (HH.out.setNg false).setTr false, ((At.refl g w).set _ _).set _ _, .inl rfl⟩
 ·have hpos : 0 < s.size := by omega
  have hb0 : decide (s.size <= 0) = false := decide_eq_false (by omega)
  have HS : Hid (∀ v : Bool, SI (((w.setCell ⟨g, 802, none⟩ (.bool false)).setCell ⟨g, 803, none⟩ (.bool false))) g (fun _ => 0) 0 0 false false 800 /\ SI ((((w.setCell ⟨g, 802, none⟩ (.bool false)).setCell ⟨g, 803, none⟩ (.bool false))).setCell ⟨g, 802, none⟩ (.bool true)) g (fun _ => 0) 0 0 true false 800) := fun _ =>
   ⟨⟨(HH.out.setNg false).setTr false, by omega, fun i hi => by omega, fun h => by omega, by omega, by omega⟩, ⟨((HH.out.setNg false).setTr false).setNg true, by omega, fun i hi => by omega, fun h => by omega, by omega, by omega⟩⟩
  go_enter Tryz.func140, Tryz.ntmps140
  go_upto_block 0 with fail
  go_cut [5] from 23 (fun s5 wx => ∃ (i : Nat) (D : Nat -> Nat) (nd : Nat) (dp : Int) (neg tr : Bool), i <= 1 /\ s5 = .int .i64 i /\ SI wx g D nd dp neg tr (i + 800) /\ At g w wx)
  case first =>
   have hS := (HH.out.setNg false).setTr false
   have uf4 := hS.unfrozen 802
   have cn4 := hS.ng
   by_cases c43 : s[0] = 43
   ·have b43 : ((s[0].toNat : Int) == 43) = true := int_eq' (n := 43) (by decide) c43
    clear c43 hS
    as_aux_lemma =>
     go_wp2_with fail
     go_meet
     exact ⟨1, _, _, _, _, _, by omega, rfl, ⟨(HH.out.setNg false).setTr false, by omega, fun i hi => by omega, fun h => by omega, by omega, by omega⟩, ((At.refl g w).set _ _).set _ _⟩
   ·have b43 : ((s[0].toNat : Int) == 43) = false := int_ne' (n := 43) (by decide) c43
    by_cases c45 : s[0] = 45
    ·have b45 : ((s[0].toNat : Int) == 45) = true := int_eq' (n := 45) (by decide) c45
     clear c43 c45 hS
     as_aux_lemma =>
      go_wp2_with fail
      go_meet
      exact ⟨1, _, _, _, _, _, by omega, rfl, ⟨((HH.out.setNg false).setTr false).setNg true, by omega, fun i hi => by omega, fun h => by omega, by omega, by omega⟩, (((At.refl g w).set _ _).set _ _).set _ _⟩
    ·have b45 : ((s[0].toNat : Int) == 45) = false := int_ne' (n := 45) (by decide) c45
     clear c43 c45 hS
     as_aux_lemma =>
      go_wp2_with fail
      go_meet
      exact ⟨0, _, _, _, _, _, by omega, rfl, ⟨(HH.out.setNg false).setTr false, by omega, fun i hi => by omega, fun h => by omega, by omega, by omega⟩, ((At.refl g w).set _ _).set _ _⟩
  case rest =>
   clear HS uf2 uf3 cng ctr
   obtain ⟨i, D, nd, dp, neg', tr', hi, rfl, hsi, hat⟩ := hcut
   have HL : Hid (SL w g s.size (.int .i64 i) (.bool false) (.bool false) wc) := ⟨i, false, false, D, nd, dp, neg', tr', by omega, rfl, rfl, rfl, hsi, hat⟩
   clear hsi hat
   go_upto_block 1 with fail
   go_cut [5, 6, 7] from 34 (fun s5 s6 s7 wx => SL w g s.size s5 s6 s7 wx)
   case first =>
    go_wp2_with fail
    go_loopg [5, 6, 7] (s.size - i) (fun n v5 v6 v7 wr => ∃ j : Nat, v5 = .int .i64 j /\ n = s.size - j /\ SL w g s.size v5 v6 v7 wr)
    case atStart => exact ⟨i, rfl, rfl, HL.out⟩
    case round =>
     clear HL
     obtain ⟨j0, hj0, hgk, j, b6, b7, D, nd, dp, neg2, tr2, hj, rfl, rfl, rfl, hsi, hat⟩ := hrel
     have hjj : j = j0 := by have := hj0; injection this; omega
     subst hjj
     clear hj0
     by_cases hlt : j < s.size
     ·obtain ⟨c, hc⟩ : ∃ c, s[j] = c := ⟨_, rfl⟩
      by_cases c95 : c = 95
      ·have b95 : ((s[j].toNat : Int) == 95) = true := by rw [hc]; exact int_eq' (n := 95) (by decide) c95
       have HX := Lib.hid (And.intro hsi hat)
       clear c95 hsi hat hc
       as_aux_lemma =>
        go_wp2_with fail
        go_roundg (gk - 1)
        case measure => omega
        case rel => exact ⟨j + 1, by go_num, by omega, j + 1, b6, b7, D, nd, dp, neg2, tr2, by omega, by go_num, rfl, rfl, ⟨HX.out.1.dec, HX.out.1.le, HX.out.1.gd, HX.out.1.first, by have := HX.out.1.lo; omega, by have := HX.out.1.hi; omega⟩, HX.out.2⟩
      ·have b95 : ((s[j].toNat : Int) == 95) = false := by rw [hc]; exact int_ne' (n := 95) (by decide) c95
       have cn := hsi.dec.nd
       have cdp := hsi.dec.dp
       have uf800 := hsi.dec.unfrozen 800
       have uf801 := hsi.dec.unfrozen 801
       have hnd8 := hsi.le
       have hdl := hsi.lo
       have hdh := hsi.hi
       have HX := Lib.hid (And.intro hsi hat)
       clear hsi hat
       by_cases c46 : c = 46
       ·have b46 : ((s[j].toNat : Int) == 46) = true := by rw [hc]; exact int_eq' (n := 46) (by decide) c46
        clear c46 c95 hc
        cases b6
        ·as_aux_lemma =>
          go_wp2_with fail
          go_roundg (gk - 1)
          case measure => omega
          case rel => exact ⟨j + 1, by go_num, by omega, j + 1, true, b7, D, nd, nd, neg2, tr2, by omega, by go_num, rfl, rfl, ⟨HX.out.1.dec.setDp _, HX.out.1.le, HX.out.1.gd, HX.out.1.first, by omega, by omega⟩, HX.out.2.set _ _⟩
        ·as_aux_lemma =>
          go_wp2_with fail
          go_returns
          exact HX.out.1.post HX.out.2 false
       ·have b46 : ((s[j].toNat : Int) == 46) = false := by rw [hc]; exact int_ne' (n := 46) (by decide) c46
        have hcn : (s[j].toNat : Int) = c.toNat := by rw [hc]
        by_cases d48 : 48 <= c.toNat
        ·have g48 : (48 : Int) <= s[j].toNat := by omega
         have dg48 : decide ((48 : Int) <= s[j].toNat) = true := decide_eq_true g48
         have dg48' : decide (48 <= s[j].toNat) = true := decide_eq_true (by omega)
         by_cases d57 : c.toNat <= 57
         ·have g57 : (s[j].toNat : Int) <= 57 := by omega
          by_cases hz : nd = 0 /\ c = 48
          ·obtain ⟨hz, c48⟩ := hz
           have b48 : ((s[j].toNat : Int) == 48) = true := by rw [hc]; exact int_eq' (n := 48) (by decide) c48
           subst hz
           clear c46 c95 hc hcn c48 d48 d57
           as_aux_lemma =>
            go_wp2_with fail
            go_roundg (gk - 1)
            case measure => omega
            case rel => exact ⟨j + 1, by go_num, by omega, j + 1, b6, true, D, 0, _, neg2, tr2, by omega, by go_num, rfl, rfl, ⟨HX.out.1.dec.setDp _, HX.out.1.le, HX.out.1.gd, HX.out.1.first, by omega, by omega⟩, HX.out.2.set _ _⟩
          ·by_cases h8 : nd < 800
           ·have cw := HX.out.1.dec.d nd h8
            have ufw := HX.out.1.dec.unfrozen nd
            have h8I : (nd : Int) < 800 := by omega
            have HC := Lib.hid (And.intro hcn (And.intro d48 (And.intro d57 (And.intro hz hc))))
            by_cases c48 : c = 48
            case' pos =>
             have b48 : ((s[j].toNat : Int) == 48) = true := by rw [hc]; exact int_eq' (n := 48) (by decide) c48
             have bz : ((nd : Int) == 0) = false := by rw [beq_eq_false_iff_ne]; intro h; exact hz ⟨by omega, c48⟩
            case' neg =>
             have b48 : ((s[j].toNat : Int) == 48) = false := by rw [hc]; exact int_ne' (n := 48) (by decide) c48
            all_goals
             clear c46 c95 hc hcn c48 d48 d57 hz
             as_aux_lemma =>
              go_wp2_with fail
              go_region
              go_wp2_with fail
              go_roundg (gk - 1)
              case measure => omega
              case rel =>
               obtain ⟨hcn, d48, d57, hz, hc⟩ := HC.out
               rw [hcn, show ((nd : Int) + 1) = ((nd + 1 : Nat) : Int) from by omega]
               refine ⟨j + 1, by go_num, by omega, j + 1, b6, true, upd D nd c.toNat, nd + 1, dp, neg2, tr2, by omega, by go_num, rfl, rfl, ⟨((HX.out.1.dec.setD nd c.toNat h8 (by omega)).setNd (nd + 1)).drewN 1, by omega, ?_, ?_, by omega, by omega⟩, ((HX.out.2.set _ _).set _ _).trans (At.drewN _ _ 1)⟩
               ·intro k hk; unfold upd; split
                ·omega
                ·exact HX.out.1.gd k (by omega)
               ·intro _; unfold upd; split
                ·rename_i h00
                 apply Decidable.byContradiction
                 intro h49
                 exact hz ⟨h00.symm, UInt8.toNat_inj.1 (show c.toNat = (48 : UInt8).toNat from by rw [show (48 : UInt8).toNat = 48 from rfl]; omega)⟩
                ·exact HX.out.1.first (by omega)
           ·have h8I : 800 <= (nd : Int) := by omega
            have bz : ((nd : Int) == 0) = false := by rw [beq_eq_false_iff_ne]; omega
            have uf803 := HX.out.1.dec.unfrozen 803
            have c803 := HX.out.1.dec.trc
            by_cases c48 : c = 48
            ·have b48 : ((s[j].toNat : Int) == 48) = true := by rw [hc]; exact int_eq' (n := 48) (by decide) c48
             have b48' : ((s[j].toNat : Int) != 48) = false := by rw [bne, b48]; rfl
             clear c46 c95 hc hcn c48 d48 d57 hz
             as_aux_lemma =>
              go_wp2_with fail
              go_roundg (gk - 1)
              case measure => omega
              case rel => exact ⟨j + 1, by go_num, by omega, j + 1, b6, true, D, nd, dp, neg2, tr2, by omega, by go_num, rfl, rfl, ⟨HX.out.1.dec, HX.out.1.le, HX.out.1.gd, HX.out.1.first, by omega, by omega⟩, HX.out.2⟩
            ·have b48 : ((s[j].toNat : Int) == 48) = false := by rw [hc]; exact int_ne' (n := 48) (by decide) c48
             have b48' : ((s[j].toNat : Int) != 48) = true := by rw [bne, b48]; rfl
             clear c46 c95 hc hcn c48 d48 d57 hz
             as_aux_lemma =>
              go_wp2_with fail
              go_roundg (gk - 1)
              case measure => omega
              case rel => exact ⟨j + 1, by go_num, by omega, j + 1, b6, true, D, nd, dp, neg2, true, by omega, by go_num, rfl, rfl, ⟨HX.out.1.dec.setTr _, HX.out.1.le, HX.out.1.gd, HX.out.1.first, by omega, by omega⟩, HX.out.2.set _ _⟩
         ·have g57 : 57 < (s[j].toNat : Int) := by omega
          clear c46 c95 hc hcn d48 d57
          as_aux_lemma =>
           go_wp2_with fail
           go_meet
           exact ⟨j, b6, b7, D, nd, dp, neg2, tr2, hj, rfl, rfl, rfl, HX.out.1, HX.out.2⟩
        ·have g48 : (s[j].toNat : Int) < 48 := by omega
         have dg48 : decide ((48 : Int) <= s[j].toNat) = false := decide_eq_false (by omega)
         have dg48' : decide (48 <= s[j].toNat) = false := decide_eq_false (by omega)
         clear c46 c95 hc hcn d48
         as_aux_lemma =>
          go_wp2_with fail
          go_meet
          exact ⟨j, b6, b7, D, nd, dp, neg2, tr2, hj, rfl, rfl, rfl, HX.out.1, HX.out.2⟩
     ·have HX := Lib.hid (And.intro hsi hat)
      clear hsi hat
      as_aux_lemma =>
       go_wp2_with fail
       go_meet
       exact ⟨j, b6, b7, D, nd, dp, neg2, tr2, hj, rfl, rfl, rfl, HX.out.1, HX.out.2⟩
   case rest =>
    clear HL
    obtain ⟨j, b6, b7, D, nd, dp, neg2, tr2, hj, rfl, rfl, rfl, hsi, hat⟩ := hcut
    have cn := hsi.dec.nd
    have cdp := hsi.dec.dp
    have uf801 := hsi.dec.unfrozen 801
    have HX := Lib.hid (And.intro hsi hat)
    have hle := hsi.le
    have hlo := hsi.lo
    have hhi := hsi.hi
    clear hsi hat
    cases b7
    ·as_aux_lemma =>
      go_wp2_with fail
      go_returns
      exact HX.out.1.post HX.out.2 false
    ·go_upto_if 120 with fail
     go_cut [5] from 121 (fun s5 wx => ∃ (D : Nat -> Nat) (nd : Nat) (dp : Int) (neg tr : Bool), s5 = .int .i64 j /\ SI wx g D nd dp neg tr (j + 800) /\ At g w wx)
     case first =>
      cases b6
      ·as_aux_lemma =>
        go_wp2_with fail
        go_meet
        exact ⟨D, nd, nd, neg2, tr2, rfl, ⟨HX.out.1.dec.setDp _, hle, HX.out.1.gd, HX.out.1.first, by omega, by omega⟩, HX.out.2.set _ _⟩
      ·as_aux_lemma =>
        go_wp2_with fail
        go_meet
        exact ⟨D, nd, dp, neg2, tr2, rfl, HX.out.1, HX.out.2⟩
     case rest =>
      clear HX cn cdp uf801 hle hlo hhi
      obtain ⟨D, nd, dp, neg3, tr3, rfl, hsi, hat⟩ := hcut
      have cdp := hsi.dec.dp
      have uf801 := hsi.dec.unfrozen 801
      have hle := hsi.le
      have hlo := hsi.lo
      have hhi := hsi.hi
      have HX := Lib.hid (And.intro hsi hat)
      clear hsi hat
      by_cases hlt : j < s.size
      ·obtain ⟨c, hc⟩ : ∃ c, lo s[j] = c := ⟨_, rfl⟩
       have hlow := fun w => lower_any s[j] w
       rw [hc] at hlow
       by_cases h101 : c = 101
       ·have b101 : ((c : Int) == 101) = true := by rw [beq_iff_eq]; omega
        by_cases hl2 : j + 1 < s.size
        ·have hl2I : (j : Int) + 1 < s.size := by omega
         go_upto_block 4 with (go_at_call 114; refine (hlow _).mono ?_; rintro e w' ⟨rfl, rfl⟩)
         go_cut [5, 8] from 148 (fun s5 s8 wx => ∃ (k : Nat) (sg : Int), s5 = .int .i64 k /\ k <= s.size /\ s8 = .int .i64 sg /\ (sg = 1 \/ sg = -1) /\ wx = wc)
         case first =>
          by_cases c43 : s[j + 1] = 43
          ·have b43 : ((s[j + 1].toNat : Int) == 43) = true := int_eq' (n := 43) (by decide) c43
           clear c43 hc h101
           as_aux_lemma =>
            go_wp2_with fail
            go_meet
            exact ⟨j + 2, 1, by go_num, by omega, rfl, .inl rfl, rfl⟩
          ·have b43 : ((s[j + 1].toNat : Int) == 43) = false := int_ne' (n := 43) (by decide) c43
           by_cases c45 : s[j + 1] = 45
           ·have b45 : ((s[j + 1].toNat : Int) == 45) = true := int_eq' (n := 45) (by decide) c45
            clear c43 c45 hc h101
            as_aux_lemma =>
             go_wp2_with fail
             go_meet
             exact ⟨j + 2, -1, by go_num, by omega, rfl, .inr rfl, rfl⟩
           ·have b45 : ((s[j + 1].toNat : Int) == 45) = false := int_ne' (n := 45) (by decide) c45
            clear c43 c45 hc h101
            as_aux_lemma =>
             go_wp2_with fail
             go_meet
             exact ⟨j + 1, 1, by go_num, by omega, rfl, .inl rfl, rfl⟩
         case rest =>
          clear hc h101 b101 hlow
          obtain ⟨k, sg, rfl, hk, rfl, hsg, rfl⟩ := hcut
          by_cases hks : k < s.size
          ·by_cases d48 : 48 <= (s[k].toNat : Int)
           ·by_cases d57 : (s[k].toNat : Int) <= 57
            ·go_wp2_with fail
             go_loopg [5, 9] (s.size - k) (fun n v5 v9 wr => ∃ (q e : Nat), n = s.size - q /\ q <= s.size /\ v5 = .int .i64 q /\ v9 = .int .i64 e /\ e <= 100000 /\ wr = wc)
             case atStart => exact ⟨k, 0, rfl, hk, rfl, rfl, by omega, rfl⟩
             case round =>
              obtain ⟨q, e, hgk, hq, rfl, rfl, he, rfl⟩ := hrel
              by_cases hqs : q < s.size
              ·obtain ⟨c2, hc2⟩ : ∃ c2 : Int, (s[q].toNat : Int) = c2 := ⟨_, rfl⟩
               have hc0 : 0 <= c2 := by omega
               have HC := Lib.hid hc2
               by_cases c95 : c2 = 95
               ·have b95 : (c2 == 95) = true := by rw [beq_iff_eq]; exact c95
                have g48 : decide (48 <= c2) = true := decide_eq_true (by omega)
                have g57 : decide (c2 <= 57) = false := decide_eq_false (by omega)
                clear c95
                as_aux_lemma =>
                 go_wp2_with fail
                 go_roundg (gk - 1)
                 case measure => omega
                 case rel => exact ⟨q + 1, e, by omega, by omega, by go_num, rfl, he, rfl⟩
               ·have b95 : (c2 == 95) = false := by rw [beq_eq_false_iff_ne]; exact c95
                by_cases hdig : 48 <= c2 /\ c2 <= 57
                ·obtain ⟨h48, h57⟩ := hdig
                 have g48 : decide (48 <= c2) = true := decide_eq_true h48
                 have g57 : decide (c2 <= 57) = true := decide_eq_true h57
                 by_cases he4 : e < 10000
                 ·have he4I : (e : Int) < 10000 := by omega
                  clear c95
                  as_aux_lemma =>
                   go_wp2_with fail
                   go_roundg (gk - 1)
                   case measure => omega
                   case rel => exact ⟨q + 1, (e * 10 + c2 - 48).toNat, by omega, by omega, by go_num, vint (by omega), by omega, rfl⟩
                 ·have he4I : 10000 <= (e : Int) := by omega
                  clear c95
                  as_aux_lemma =>
                   go_wp2_with fail
                   go_roundg (gk - 1)
                   case measure => omega
                   case rel => exact ⟨q + 1, e, by omega, by omega, by go_num, rfl, he, rfl⟩
                ·by_cases h48 : 48 <= c2
                 case' pos =>
                  have g48 : decide (48 <= c2) = true := decide_eq_true h48
                  have g57 : decide (c2 <= 57) = false := decide_eq_false (by omega)
                 case' neg =>
                  have g48 : decide (48 <= c2) = false := decide_eq_false h48
                 all_goals
                  have bne : ((q : Int) != s.size) = true := by rw [bne_iff_ne]; omega
                  clear c95 hdig h48
                  rcases hsg with rfl | rfl
                  all_goals
                   as_aux_lemma =>
                    go_wp2_with fail
                    go_returns
                    exact SI.post (B := j + 200000) ⟨HX.out.1.dec.setDp _, HX.out.1.le, HX.out.1.gd, HX.out.1.first, by omega, by omega⟩ (HX.out.2.set _ _) false
              ·have bne : ((q : Int) != s.size) = false := by rw [bne_eq_false_iff_eq]; omega
               rcases hsg with rfl | rfl
               all_goals
                as_aux_lemma =>
                 go_wp2_with fail
                 go_returns
                 exact SI.post (B := j + 200000) ⟨HX.out.1.dec.setDp _, HX.out.1.le, HX.out.1.gd, HX.out.1.first, by omega, by omega⟩ (HX.out.2.set _ _) true
            ·have g57 : 57 < (s[k].toNat : Int) := by omega
             as_aux_lemma =>
              go_wp2_with fail
              go_returns
              exact HX.out.1.post HX.out.2 false
           ·have g48 : (s[k].toNat : Int) < 48 := by omega
            as_aux_lemma =>
             go_wp2_with fail
             go_returns
             exact HX.out.1.post HX.out.2 false
          ·as_aux_lemma =>
            go_wp2_with fail
            go_returns
            exact HX.out.1.post HX.out.2 false
        ·have hl2I : (s.size : Int) <= (j : Int) + 1 := by omega
         clear hc h101
         as_aux_lemma =>
          go_wp2_with (go_at_call 114; refine (hlow _).mono ?_; rintro e w' ⟨rfl, rfl⟩)
          go_returns
          exact HX.out.1.post HX.out.2 false
       ·have b101 : ((c : Int) == 101) = false := by rw [beq_eq_false_iff_ne]; omega
        have bne : ((j : Int) != s.size) = true := by rw [bne_iff_ne]; omega
        clear hc h101
        as_aux_lemma =>
         go_wp2_with (go_at_call 114; refine (hlow _).mono ?_; rintro e w' ⟨rfl, rfl⟩)
         go_returns
         exact HX.out.1.post HX.out.2 false
      ·have bne : ((j : Int) != s.size) = false := by rw [bne_eq_false_iff_eq]; omega
       as_aux_lemma =>
        go_wp2_with fail
        go_returns
        exact HX.out.1.post HX.out.2 true
end Go.Proofs.YtdfolbmoohcblaaGreatDoor
