/-
For FnReadAgain, part 2: W1d W2 W2a W2b W2c.
-/
import Derived.Test.YtdfolbmoohcblaaGreatDoorM01
import Derived.Deep.QuietTactic
import Derived.BigQuiet
import Derived.Lib.SlBytesConst
set_option linter.all false
namespace Go.Proofs.YtdfolbmoohcblaaGreatDoor
set_option maxHeartbeats 2000000
set_option maxRecDepth 100000
open Go.RowKit
def RxRel (l : List UInt8) (all : List (Nat × Nat × Nat × Nat)) (vix : Value) (vs : List Value) (I : List (List UInt8) -> World -> Prop) (st i : Value) (w : World) : Prop :=
 ∃ (k : Nat) (d : List (List UInt8)) (a : Nat) (rest : List (Nat × Nat × Nat × Nat)), k <= all.length /\ i = .int .i64 k /\ st = .int .i64 a /\ rest = all.drop k /\ fpOk l.length a rest /\
  d ++ cutAt l a rest = cutAt l 0 all /\ Row w 126 1 vix all.length vs /\ All2 (QRep w) vs all /\ (I d w /\ d.length <= k)
theorem splitRegexp_any (s : ByteArray) (dbl : Bool) (sid fid : Nat) (c c' : Addr) (base : Nat) (S : Nat -> Prop) (I : List (List UInt8) -> World -> Prop) (F : List UInt8 -> Prop) (J : World -> Prop) (w : World) (hs : s.size <= 1099511627776)
  (hS3 : ¬ S 3) (hS126 : ¬ S 126)
  (hf : ∀ args w, (callFunc fid args).run Tryz.prog w = .ok (.enter fid args) w)
  (hsf : ∀ args w, (callFunc sid args).run Tryz.prog w = .ok (.enter sid args) w)
  (hset : ∀ (n : Int) w1, Below w.heap.size w w1 -> 0 <= n -> n <= s.size + 1 -> Calls Tryz.prog sid #[.int .i64 n, .pointer (some c')] w1 fun e w' => e = .returned (.tuple #[]) /\ I [] w' /\ Keep base S w1 w')
  (hy : ∀ d p w, I d w -> p.size <= s.size -> d.length <= s.size -> Calls Tryz.prog fid #[.string p, .pointer (some c)] w (fun e w' => YPost I F J d (ls p) e w' /\ Keep base S w w')) :
  Calls Tryz.prog 46 #[.string s, .bool dbl, .func (.func sid) #[] #[.pointer (some c')], .func (.func fid) #[] #[.pointer (some c)]] w (SPost I F J (pieces (ls s) dbl)) := by
 have HY := Lib.hid hy
 have HS := Lib.hid hset
 clear hy hset
 have hlen := fp_len (ls s) dbl (ls s).length 0 (by omega)
 have hok := fp_ok (ls s) dbl (ls s).length 0 (by omega) (by omega)
 have hfind := findParens_any s dbl w hs
 unfold pieces
 rw [ls_length] at hlen
 generalize fp (ls s) dbl 0 = all at hlen hok hfind ⊢
 have HO := Lib.hid hok
 clear hok
 have HN := Lib.hid hfind
 clear hfind
 go_enter Tryz.func46, Tryz.ntmps46
 go_wp2_with fail
 refine HN.out.mono ?_
 clear HN
 rintro e w1 ⟨v, vs, rfl, hrow, hall, hbel⟩
 have HR := Lib.hid (And.intro hrow (And.intro hall hbel))
 obtain ⟨vA, vn, rfl⟩ := Row.shape hrow
 clear hrow hall hbel
 go_wp2_with fail
 refine (HS.out (↑all.length + 1) w1 HR.out.2.2 (by omega) (by omega)).mono ?_
 clear HS
 rintro e w2 ⟨rfl, hI, hk⟩
 have HI := Lib.hid (And.intro (Row.kept HR.out.1 hk (.inr hS126)) (And.intro (HR.out.2.1.imp fun a b hab => Row.kept hab hk (.inr hS3)) hI))
 clear hI hk HR
 go_wp2_with fail
 go_loopw [10, 24] (fun st i w => RxRel (ls s) all (.slice vA all.length vn) vs I st i w) (fun _ i _ => all.length - (intOf i).toNat)
 case atStart => exact ⟨0, [], 0, all, Nat.zero_le _, rfl, rfl, rfl, HO.out, rfl, HI.out.1, HI.out.2.1, HI.out.2.2, Nat.zero_le _⟩
 case round =>
  clear HI HO
  obtain ⟨k, d, a, rest, hk, rfl, rfl, hrest, hok, hrun, hrow, hall, hI⟩ := hrel
  by_cases hlt : k < all.length
  ·rw [List.drop_eq_getElem_cons hlt] at hrest
   obtain ⟨⟨b0, fr, to, en⟩, hq⟩ : ∃ q, all[k] = q := ⟨_, rfl⟩
   rw [hq] at hrest
   subst hrest
   obtain ⟨o1, o2, o3, o4⟩ := hok
   rw [ls_length] at o3
   obtain ⟨qv, hqv, hqr⟩ := hall.get' (List.getElem?_eq_getElem hlt)
   rw [hq] at hqr
   obtain ⟨g, cap, hv, -⟩ := Row.pos hrow (by omega)
   injection hv with e1 e2 e3
   subst e1; subst e3
   clear e2
   have hc1 := Row.cell hrow k hqv
   obtain ⟨g', cap', hv', hc'⟩ := Row.pos hqr (by omega)
   subst hv'
   have hc2 := Row.cell hqr 2 (u := .int .i64 fr) rfl
   have hc3 := Row.cell hqr 3 (u := .int .i64 to) rfl
   have HH := Lib.hid (And.intro hrow (And.intro hall (And.intro hI (And.intro hrun (And.intro o4 hq)))))
   have HC := Lib.hid (And.intro hqr hqr)
   clear hrow hall hI hrun o4 hq hqv hqr
   go_wp2_with fail
   refine (HY.out d _ wr HH.out.2.2.1.1 (by rw [ByteArray.size_extract]; omega) (by have := HH.out.2.2.1.2; omega)).mono ?_
   rintro e w3 ⟨⟨rfl, hI1⟩ | ⟨t, v, rfl, hF, hJ⟩, hk3⟩
   ·have hc3' : w3.cell? ⟨g', 3, none⟩ = some (.int .i64 to) := Row.cell (Row.kept HC.out.1 hk3 (.inr hS3)) 3 rfl
    have HI1 := Lib.hid (And.intro hI1 hk3)
    clear hI1 hk3 hc1 hc2 hc3
    go_wp2_with fail
    go_roundw
    case rel =>
     obtain ⟨hrow, hall, hI, hrun, o4, hq⟩ := HH.out
     obtain ⟨hI1, hk3⟩ := HI1.out
     refine ⟨k + 1, d ++ [ls (s.extract a fr)], to, all.drop (k + 1), by omega, by go_num, rfl, rfl, o4, ?_, Row.kept hrow hk3 (.inr hS126), hall.imp fun a b hab => Row.kept hab hk3 (.inr hS3), hI1, by have := hI.2; simp; omega⟩
     rw [<- hrun, cutAt, ls_extract, List.append_assoc]; rfl
    case measure => simp [intOf]; omega
   ·have HF := Lib.hid (And.intro hF (And.intro hJ hk3))
    clear hF hJ hk3
    go_wp2_with fail
    go_returns
    obtain ⟨hrow, hall, hI, hrun, o4, hq⟩ := HH.out
    obtain ⟨hF, hJ, -⟩ := HF.out
    refine .inr ⟨t, v, rfl, ⟨_, ?_, hF⟩, hJ⟩
    rw [<- hrun, cutAt, ls_extract]; simp
  ·have hkk : k = all.length := by omega
   subst hkk
   rw [List.drop_length] at hrest
   subst hrest
   have hal : a <= s.size := hok
   have HH := Lib.hid (And.intro hI hrun)
   clear hI hrun hok hrow hall
   go_wp2_with fail
   refine (HY.out d _ wr HH.out.1.1 (by rw [ByteArray.size_extract]; omega) (by have := HH.out.1.2; omega)).mono ?_
   rintro e w3 ⟨⟨rfl, hI1⟩ | ⟨t, v, rfl, hF, hJ⟩, hk3⟩
   ·have HI1 := Lib.hid hI1
    clear hI1 hk3
    go_wp2_with fail
    go_returns
    have h1 := HI1.out
    rw [ls_extract, List.take_of_length_le (by simp [ls_length])] at h1
    refine .inl ⟨rfl, ?_⟩
    rw [<- HH.out.2]; exact h1
   ·have HF := Lib.hid (And.intro hF hJ)
    clear hF hJ hk3
    go_wp2_with fail
    go_returns
    obtain ⟨hF, hJ⟩ := HF.out
    rw [ls_extract, List.take_of_length_le (by simp [ls_length])] at hF
    refine .inr ⟨t, v, rfl, ⟨_, ?_, hF⟩, hJ⟩
    rw [<- HH.out.2]; simp [cutAt]
theorem sp3_yes {c : UInt8} (h : sp3 c = true) : ((c.toNat : Int) == 32) = true \/ (((c.toNat : Int) == 32) = false /\ ((c.toNat : Int) == 9) = true) \/ (((c.toNat : Int) == 32) = false /\ ((c.toNat : Int) == 9) = false /\ ((c.toNat : Int) == 10) = true) := by
  simp only [sp3, Bool.or_eq_true, beq_iff_eq] at h
  rcases h with (h | h) | h <;> subst h <;> simp
theorem ne_int {c : UInt8} {n : Nat} (hn : n < 256) (h : c ≠ UInt8.ofNat n) : ((c.toNat : Int) == (n : Int)) = false := by
  rw [beq_eq_false_iff_ne]; intro e; apply h; apply UInt8.toNat_inj.1; rw [UInt8.toNat_ofNat', Nat.mod_eq_of_lt (by omega)]; exact Int.ofNat_inj.1 e
theorem sp3_no {c : UInt8} (h : sp3 c = false) : ((c.toNat : Int) == 32) = false /\ ((c.toNat : Int) == 9) = false /\ ((c.toNat : Int) == 10) = false := by
  simp only [sp3, Bool.or_eq_false_iff, beq_eq_false_iff_ne] at h
  exact ⟨ne_int (n := 32) (by omega) h.1.1, ne_int (n := 9) (by omega) h.1.2, ne_int (n := 10) (by omega) h.2⟩
theorem bne_of_beq {a b : Int} {r : Bool} (h : (a == b) = r) : (a != b) = !r := by rw [bne, h]
theorem extract_bs' {s : ByteArray} {k m n : Nat} (h : n = m - k) : s.extract k m = bs (((ls s).drop k).take n) := by rw [extract_bs, h]
theorem trimSpace_any (s : ByteArray) (w : World) (hs : s.size <= 1099511627776) :
    Calls Tryz.prog 20 #[.string s] w fun e w' => e = .returned (.string (bs (trim (ls s)))) /\ w = w' := by
  by_cases h0 : s.size = 0
  · go_enter Tryz.func20, Tryz.ntmps20
    go_wp2_with fail
    go_returns
    have e : s = bs (trim (ls s)) := by
      apply ls_inj
      have h1 : ls s = [] := List.eq_nil_of_length_eq_zero (by rw [ls_length]; exact h0)
      rw [h1]; rfl
    exact ⟨by rw [<- e]; rfl, rfl⟩
  · have hb : ((s.size : Int) == 0) = false := by rw [beq_eq_false_iff_ne]; omega
    go_enter Tryz.func20, Tryz.ntmps20
    go_wp2_with fail
    go_loop [3] (fun i => ∃ k : Nat, k <= s.size /\ i = .int .i64 k /\ Hid (lead (ls s) = k + lead ((ls s).drop k))) (fun i => s.size - (intOf i).toNat)
    case atStart => exact ⟨0, Nat.zero_le _, rfl, by show _ = _; simp⟩
    case round =>
      obtain ⟨k, hk, rfl, hle⟩ := hrel
      by_cases hsp : ∃ h : k < s.size, sp3 s[k] = true
      · obtain ⟨hlt, h3⟩ := hsp
        have hg := ls_getElem? s k hlt
        rcases sp3_yes h3 with v1 | ⟨v1, v2⟩ | ⟨v1, v2, v3⟩
        all_goals
          have u1 := bne_of_beq v1
          try have u2 := bne_of_beq v2
          try have u3 := bne_of_beq v3
          simp only [Bool.not_true, Bool.not_false] at *
          have HH := Lib.hid (And.intro h3 hg)
          clear h3 hg
          go_wp2_with fail
          go_round
          case rel => exact ⟨k + 1, by omega, by go_num, by show _ = _; have := hle.out; rw [lead_yes HH.out.2 HH.out.1] at this; omega⟩
          case measure => simp [intOf]; omega
      · have HL : Hid (lead (ls s) = k) := by
          show _ = _
          have := hle.out
          by_cases hlt : k < s.size
          · rw [lead_no (ls_getElem? s k hlt) (by cases h : sp3 s[k] with | true => exact absurd ⟨hlt, h⟩ hsp | false => rfl)] at this; omega
          · rw [lead_end (by rw [ls_length]; omega)] at this; omega
        by_cases hlt : k < s.size
        all_goals
          first
          | (have h3 : sp3 s[k] = false := by cases h : sp3 s[k] with | true => exact absurd ⟨hlt, h⟩ hsp | false => rfl
             obtain ⟨v1, v2, v3⟩ := sp3_no h3
             have u1 := bne_of_beq v1
             have u2 := bne_of_beq v2
             have u3 := bne_of_beq v3
             simp only [Bool.not_false] at u1 u2 u3
             clear h3 hle hsp
             go_wp2_with fail)
          | (clear hle hsp
             go_wp2_with fail)
        all_goals
          go_loop [4] (fun i => ∃ m : Nat, m <= s.size /\ i = .int .i64 ((m : Int) - 1) /\ Hid (trail (ls s) = s.size - m + trail ((ls s).take m))) (fun i => (intOf i + 1).toNat)
          case atStart => exact ⟨s.size, Nat.le_refl _, rfl, by show _ = _; rw [List.take_of_length_le (by rw [ls_length]; omega)]; omega⟩
          case round =>
            obtain ⟨m, hm, rfl, htr⟩ := hrel
            by_cases hsp : ∃ h : 0 < m /\ m - 1 < s.size, sp3 (s[m - 1]'h.2) = true
            · obtain ⟨⟨h0m, h1m⟩, h3⟩ := hsp
              obtain ⟨m, rfl⟩ : ∃ n, m = n + 1 := ⟨m - 1, by omega⟩
              simp only [Nat.add_sub_cancel] at h3 h1m
              have hg := ls_getElem? s m h1m
              have em : (((m + 1 : Nat) : Int) - 1) = (m : Int) := by omega
              rw [em]
              rcases sp3_yes h3 with x1 | ⟨x1, x2⟩ | ⟨x1, x2, x3⟩
              all_goals
                have y1 := bne_of_beq x1
                try have y2 := bne_of_beq x2
                try have y3 := bne_of_beq x3
                simp only [Bool.not_true, Bool.not_false] at y1
                try simp only [Bool.not_true, Bool.not_false] at y2
                try simp only [Bool.not_true] at y3
                have HH := Lib.hid (And.intro h3 hg)
                clear h3 hg em
                go_wp2_with fail
                go_round
                case rel => exact ⟨m, by omega, rfl, by show _ = _; have := htr.out; rw [trail_yes HH.out.2 HH.out.1] at this; omega⟩
                case measure => (simp [intOf]) <;> omega
            · have HT : Hid (trail (ls s) = s.size - m) := by
                show _ = _
                have := htr.out
                by_cases h0m : 0 < m
                · obtain ⟨m, rfl⟩ : ∃ n, m = n + 1 := ⟨m - 1, by omega⟩
                  rw [trail_no (ls_getElem? s m (by omega)) (by cases h : sp3 s[m] with | true => exact absurd ⟨⟨h0m, by omega⟩, h⟩ hsp | false => rfl)] at this; omega
                · rw [show m = 0 from by omega] at this ⊢
                  rw [this]; rfl
              by_cases h0m : 0 < m
              · obtain ⟨m, rfl⟩ : ∃ n, m = n + 1 := ⟨m - 1, by omega⟩
                have h1m : m < s.size := by omega
                have em : (((m + 1 : Nat) : Int) - 1) = (m : Int) := by omega
                rw [em]
                have h3 : sp3 s[m] = false := by cases h : sp3 s[m] with | true => exact absurd ⟨⟨h0m, by omega⟩, h⟩ hsp | false => rfl
                obtain ⟨x1, x2, x3⟩ := sp3_no h3
                have y1 := bne_of_beq x1
                have y2 := bne_of_beq x2
                have y3 := bne_of_beq x3
                simp only [Bool.not_false] at y1 y2 y3
                clear h3 htr hsp em
                by_cases hcmp : m <= k
                · go_wp2_with fail
                  go_returns
                  refine ⟨?_, rfl⟩
                  rw [trim, if_pos (by rw [HL.out, HT.out, ls_length]; omega)]; rfl
                · go_wp2_with fail
                  go_returns
                  refine ⟨?_, rfl⟩
                  rw [trim, if_neg (by rw [HL.out, HT.out, ls_length]; omega), HL.out, HT.out, ls_length, <- extract_bs' (m := m + 1) (by omega)]; rfl
              · have em : m = 0 := by omega
                subst em
                clear htr hsp
                go_wp2_with fail
                go_returns
                refine ⟨?_, rfl⟩
                rw [trim, if_pos (by rw [HL.out, HT.out, ls_length]; omega)]; rfl
def upto32 (l : List UInt8) : Nat := (l.takeWhile (· != 32)).length
theorem upto32_yes {l : List UInt8} {k : Nat} (h : l[k]? = some 32) : upto32 (l.drop k) = 0 := by
 obtain ⟨hi, he⟩ := List.getElem?_eq_some_iff.1 h
 unfold upto32; rw [List.drop_eq_getElem_cons hi, he]; rfl
theorem upto32_no {l : List UInt8} {k : Nat} {c : UInt8} (h : l[k]? = some c) (hc : c ≠ 32) : upto32 (l.drop k) = 1 + upto32 (l.drop (k + 1)) := by
 obtain ⟨hi, rfl⟩ := List.getElem?_eq_some_iff.1 h
 unfold upto32; rw [List.drop_eq_getElem_cons hi, List.takeWhile_cons, if_pos (by simpa using hc), List.length_cons]; omega
theorem toList_ls (s : ByteArray) : s.toList = ls s := ByteArray.toList_eq s
def ZzPost (l : List UInt8) (w : World) (e : Ending) (w' : World) : Prop := e = .returned (.int .i64 (if upto32 l < l.length then (upto32 l : Int) else -1)) /\ w = w'
theorem zzIndex_any (s : ByteArray) (w : World) (hs : s.size <= 1099511627776) :
  Calls Tryz.prog 75 #[.string s, .string { data := #[32] }] w (ZzPost (ls s) w) := by
 go_enter Tryz.func75, Tryz.ntmps75
 go_wp2_with fail
 go_loop [5] (fun i => ∃ k : Nat, k <= s.size /\ i = .int .i64 k /\ Hid (upto32 (ls s) = k + upto32 ((ls s).drop k))) (fun i => s.size - (intOf i).toNat)
 case atStart => exact ⟨0, Nat.zero_le _, rfl, by show _ = _; simp⟩
 case round =>
  obtain ⟨k, hk, rfl, hle⟩ := hrel
  by_cases hlt : k < s.size
  ·have hg := ls_getElem? s k hlt
   have he : (s.extract k (k + 1)).toList = [s[k]] := by
    rw [toList_ls, ls_extract, List.drop_eq_getElem_cons (by rw [ls_length]; exact hlt), show k + 1 - k = 1 from by omega]; rfl
   have HG := Lib.hid hg
   clear hg
   by_cases h32 : s[k] = 32
   ·have hb : ((s.extract k (k + 1)).toList == [32]) = true := by rw [he, h32]; rfl
    have HV := Lib.hid h32
    clear he h32
    go_wp2_with fail
    go_returns
    refine ⟨?_, rfl⟩
    have := hle.out
    rw [upto32_yes (by rw [HG.out, HV.out])] at this
    rw [if_pos (by rw [ls_length]; omega), this]; rfl
   ·have hb : ((s.extract k (k + 1)).toList == [32]) = false := by rw [he, beq_eq_false_iff_ne]; simpa using h32
    have HV := Lib.hid h32
    clear he h32
    go_wp2_with fail
    go_round
    case rel => exact ⟨k + 1, by omega, by go_num, by show _ = _; have := hle.out; rw [upto32_no HG.out HV.out] at this; omega⟩
    case measure => simp [intOf]; omega
  ·go_wp2_with fail
   go_returns
   refine ⟨?_, rfl⟩
   have := hle.out
   rw [List.drop_eq_nil_of_le (by rw [ls_length]; omega)] at this
   simp only [upto32, List.takeWhile_nil, List.length_nil] at this
   rw [if_neg (by rw [ls_length]; unfold upto32; omega)]; rfl
def cutV (l : List UInt8) : Value :=
 if upto32 l < l.length then .tuple #[.string (bs (l.take (upto32 l))), .string (bs (l.drop (upto32 l + 1))), .bool true]
 else .tuple #[.string (bs l), .string { data := #[] }, .bool false]
def CutPost (l : List UInt8) (w : World) (e : Ending) (w' : World) : Prop := e = .returned (cutV l) /\ Below w.heap.size w w'
theorem cut_any (s : ByteArray) (w : World) (hs : s.size <= 1099511627776) :
  Calls Tryz.prog 65 #[.string s, .string { data := #[32] }] w (CutPost (ls s) w) := by
 by_cases h : upto32 (ls s) < s.size
 ·go_enter Tryz.func65, Tryz.ntmps65
  go_wp2_with fail
  refine (zzIndex_any s w hs).mono ?_
  rintro e w' ⟨rfl, rfl⟩
  rw [if_pos (by rw [ls_length]; exact h)]
  go_wp2_with fail
  generalize hu : upto32 (ls s) = u at h ⊢
  have HU := Lib.hid hu
  clear hu
  have e1 : IntKind.i64.wrap (↑u + 1) = (u : Int) + 1 := IntWalk.i64_in _ (by omega)
  have e2 : (0 : Int) <= ↑u + 1 := by omega
  have e3 : ((u : Int) + 1).toNat = u + 1 := by omega
  have e4 : (u : Int) + 1 <= s.size := by omega
  go_quiet (fail)
  clear e1 e2 e3 e4
  go_wp2_with fail
  go_returns
  refine ⟨?_, ?_⟩
  ·rw [cutV, HU.out, if_pos (by rw [ls_length]; exact h), extract_bs, extract_bs, List.take_of_length_le (l := List.drop (u + 1) (ls s)) (by simp [ls_length])]; rfl
  ·exact ⟨rfl, rfl, rfl, Nat.le_refl _, fun _ _ => rfl⟩
 ·go_enter Tryz.func65, Tryz.ntmps65
  go_wp2_with fail
  refine (zzIndex_any s w hs).mono ?_
  rintro e w' ⟨rfl, rfl⟩
  rw [if_neg (by rw [ls_length]; exact h)]
  go_wp2_with fail
  go_returns
  refine ⟨?_, Below.refl _ _⟩
  rw [cutV, if_neg (by rw [ls_length]; exact h)]; rfl
structure Env (w : World) : Prop where
 unsup : ∃ t v, w.cell? ⟨0, 0, none⟩ = some (.iface t v)
 notWKT : ∃ t v, w.cell? ⟨1, 0, none⟩ = some (.iface t v)
theorem Env.below {w w' : World} (h : Env w) (hb : Below w.heap.size w w') : Env w' := by
 obtain ⟨⟨t, v, h0⟩, ⟨t', v', h1⟩⟩ := h
 exact ⟨⟨t, v, cell_later hb h0⟩, ⟨t', v', cell_later hb h1⟩⟩
def brk (l : List UInt8) : Option (List UInt8) :=
 match trim l with
 | [] => some []
 | c :: r => if c = 40 then (match r.getLast? with | some d => if d = 41 then some (trim r.dropLast) else none | none => none) else none
def BrkPost (l : List UInt8) (w : World) (e : Ending) (w' : World) : Prop :=
 Below w.heap.size w w' /\ ((∃ r, brk l = some r /\ e = .returned (.tuple #[.string (bs r), .nilIface])) \/ (brk l = none /\ ∃ t v, e = .returned (.tuple #[.string { data := #[] }, .iface t v])))
theorem trim_len (l : List UInt8) : (trim l).length <= l.length := by
 unfold trim
 split
 ·simp
 ·simp; omega
theorem trim_two {l : List UInt8} (h : trim l ≠ []) : 2 <= (trim l).length := by
 unfold trim at h ⊢
 split
 ·rename_i hc; rw [if_pos hc] at h; exact absurd rfl h
 ·simp; omega
theorem below_drewN (w : World) (n : Nat) : Below w.heap.size w (w.drewN n) := ⟨rfl, rfl, rfl, Nat.le_refl _, fun _ _ => rfl⟩
theorem trimSpaceBrackets_any (s : ByteArray) (w : World) (hs : s.size <= 1099511627776) (henv : Env w) :
  Calls Tryz.prog 40 #[.string s] w (BrkPost (ls s) w) := by
 obtain ⟨t1, v1, hN⟩ := henv.notWKT
 have hl := trim_len (ls s)
 rw [ls_length] at hl
 have htrim := trimSpace_any s w hs
 cases htr : trim (ls s) with
 | nil =>
  rw [htr] at htrim
  have HT := Lib.hid htr
  clear htr hl
  go_enter Tryz.func40, Tryz.ntmps40
  go_wp2_with fail
  refine htrim.mono ?_
  clear htrim
  rintro e w' ⟨rfl, rfl⟩
  go_wp2_with fail
  go_returns
  refine ⟨Below.refl _ _, .inl ⟨[], by rw [brk, HT.out], rfl⟩⟩
 | cons c r =>
  have hr : r ≠ [] := by rintro rfl; have := trim_two (l := ls s) (by rw [htr]; simp); rw [htr] at this; simp at this
  obtain ⟨t, ht⟩ : ∃ t, bs (trim (ls s)) = t := ⟨_, rfl⟩
  have htl : ls t = c :: r := by rw [<- ht, ls_bs, htr]
  have hts : t.size <= s.size := by rw [<- ls_length t, htl, <- htr]; exact hl
  have htz : t.size = r.length + 1 := by rw [<- ls_length t, htl]; rfl
  have hrl : 0 < r.length := List.length_pos_iff.2 hr
  have ht2 : 2 <= t.size := by rw [htz]; exact Nat.succ_le_succ hrl
  have ht02 : 0 < t.size := Nat.lt_of_lt_of_le (by decide) ht2
  have ht0 : t[0] = c := by
   have := ls_getElem? t 0 (by omega); rw [htl] at this; simpa using this.symm
  rw [ht] at htrim
  have HT := Lib.hid (And.intro htr (And.intro htl htz))
  clear htr htl htz ht hl
  by_cases hc : c = 40
  ·have hv : ((t[0]).toNat : Int) = 40 := by rw [ht0, hc]; rfl
   have HC := Lib.hid (And.intro hc ht0)
   clear hc ht0
   have hxs : ls (t.extract 1 t.size) = r := by
    rw [ls_extract, HT.out.2.1, List.drop_succ_cons, List.drop_zero, List.take_of_length_le (by rw [HT.out.2.2]; omega)]
   have hxz : (t.extract 1 t.size).size = t.size - 1 := by rw [ByteArray.size_extract]; omega
   have hxb : t.size - 1 - 1 < (t.extract 1 t.size).size := by rw [hxz]; omega
   have hlast : r.getLast? = some ((t.extract 1 t.size)[t.size - 1 - 1]) := by
    have h1 := ls_getElem? (t.extract 1 t.size) (t.size - 1 - 1) hxb
    rw [hxs] at h1
    rw [List.getLast?_eq_getElem?, <- h1, HT.out.2.2]; rfl
   have hdrop : ls ((t.extract 1 t.size).extract 0 (t.size - 1 - 1)) = r.dropLast := by
    rw [ls_extract, hxs, List.drop_zero, List.dropLast_eq_take, HT.out.2.2]; rfl
   have HX := Lib.hid (And.intro hlast hdrop)
   clear hxs hxz hdrop
   have htrim2 := trimSpace_any ((t.extract 1 t.size).extract 0 (t.size - 1 - 1)) w (by simp only [ByteArray.size_extract]; omega)
   by_cases hd : (t.extract 1 t.size)[t.size - 1 - 1] = 41
   ·have hv2 : (((t.extract 1 t.size)[t.size - 1 - 1]).toNat : Int) = 41 := by rw [hd]; rfl
    have HD := Lib.hid hd
    clear hd hlast
    go_enter Tryz.func40, Tryz.ntmps40
    go_wp2_with fail
    refine htrim.mono ?_
    clear htrim
    rintro e w' ⟨rfl, rfl⟩
    go_wp2_with fail
    refine htrim2.mono ?_
    clear htrim2
    rintro e w' ⟨rfl, rfl⟩
    go_wp2_with fail
    go_returns
    refine ⟨Below.refl _ _, .inl ⟨trim r.dropLast, ?_, ?_⟩⟩
    ·simp only [brk, HT.out.1, if_pos HC.out.1, HX.out.1, if_pos HD.out]
    ·rw [<- HX.out.2]; rfl
   ·have hv2 : ((((t.extract 1 t.size)[t.size - 1 - 1]).toNat : Int) == 41) = false := ne_int (n := 41) (by omega) hd
    have HD := Lib.hid hd
    clear hd hlast htrim2
    go_enter Tryz.func40, Tryz.ntmps40
    go_wp2_with fail
    refine htrim.mono ?_
    clear htrim
    rintro e w' ⟨rfl, rfl⟩
    go_wp2_with fail
    go_quiet (fail)
    go_wp2_with fail
    go_returns
    refine ⟨below_drewN _ _, .inr ⟨?_, _, _, rfl⟩⟩
    simp only [brk, HT.out.1, if_pos HC.out.1, HX.out.1, if_neg HD.out]
  ·have hv : (((t[0]).toNat : Int) == 40) = false := by rw [ht0]; exact ne_int (n := 40) (by omega) hc
   have HC := Lib.hid (And.intro hc ht0)
   clear hc ht0
   go_enter Tryz.func40, Tryz.ntmps40
   go_wp2_with fail
   refine htrim.mono ?_
   clear htrim
   rintro e w' ⟨rfl, rfl⟩
   go_wp2_with fail
   go_quiet (fail)
   go_wp2_with fail
   go_returns
   refine ⟨below_drewN _ _, .inr ⟨?_, _, _, rfl⟩⟩
   rw [brk, HT.out.1]; exact if_neg HC.out.1
def cel (xs : List UInt8) : List Value := xs.map fun c => .int .u8 c.toNat
def Bytes (w : World) (b : Nat) (xs : List UInt8) : Prop := ∀ i c, xs[i]? = some c -> w.cell? ⟨b, i, none⟩ = some (.int .u8 c.toNat)
theorem strOfNums_bs (xs : List UInt8) : strOfNums (xs.map fun c => (c.toNat : Int)) = bs xs := by
 apply ls_inj
 show (strOfNums _).data.toList = xs
 rw [strOfNums_data, List.map_map]
 conv => rhs; rw [<- List.map_id xs]
 apply List.map_congr_left
 intro c _
 simp
theorem Bytes.run {w : World} {b : Nat} {xs : List UInt8} (h : Bytes w b xs) (cap : Nat) (n : Nat) (hn : n = xs.length) :
  (convert 66 9 (.slice (some ⟨b, 0, none⟩) n cap)).run Tryz.prog w = .ok (.string (bs xs)) w := by
 have h1 := run_convert_bytes_arg (P := Tryz.prog) w 66 5 Tryz.underlying66 Tryz.underlying5 b 0 n cap (xs.map fun c => (c.toNat : Int)) (by simp [hn]) (by
  intro i hi
  rw [Nat.zero_add, h i xs[i] (List.getElem?_eq_getElem (by omega))]
  simp [List.getD, List.getElem?_eq_getElem (show i < xs.length by omega)]) 9 Tryz.underlying9
 rw [h1, strOfNums_bs]
theorem Bytes.take {w : World} {b : Nat} {xs : List UInt8} (h : Bytes w b xs) (n : Nat) : Bytes w b (xs.take n) := by
 intro i c hi
 rw [List.getElem?_take] at hi
 split at hi
 ·exact h i c hi
 ·cases hi
theorem Bytes.below {w w' : World} {b : Nat} {xs : List UInt8} (h : Bytes w b xs) (hb : Below w.heap.size w w') : Bytes w' b xs := fun i c hi => cell_later hb (h i c hi)
theorem Equal_any (b1 b2 c1 c2 n1 n2 : Nat) (xs ys : List UInt8) (w : World) (h1 : Bytes w b1 xs) (h2 : Bytes w b2 ys) (hn1 : n1 = xs.length) (hn2 : n2 = ys.length) :
  Calls Tryz.prog 39 #[.slice (some ⟨b1, 0, none⟩) n1 c1, .slice (some ⟨b2, 0, none⟩) n2 c2] w fun e w' => e = .returned (.bool (xs == ys)) /\ w = w' := by
 have r1 := h1.run c1 n1 hn1
 have r2 := h2.run c2 n2 hn2
 have HN := Lib.hid (And.intro hn1 hn2)
 clear h1 h2 hn1 hn2
 go_enter Tryz.func39, Tryz.ntmps39
 go_wp2
 go_returns
 refine ⟨?_, rfl⟩
 rw [toList_ls, toList_ls]; rfl
theorem HasPrefix_any (b1 b2 c1 c2 n1 n2 : Nat) (xs ys : List UInt8) (w : World) (h1 : Bytes w b1 xs) (h2 : Bytes w b2 ys) (hn1 : n1 = xs.length) (hn2 : n2 = ys.length) (hlt : n2 <= n1) (hc : n1 <= c1) :
  Calls Tryz.prog 22 #[.slice (some ⟨b1, 0, none⟩) n1 c1, .slice (some ⟨b2, 0, none⟩) n2 c2] w fun e w' => e = .returned (.bool (xs.take n2 == ys)) /\ w = w' := by
 have he := Equal_any b1 b2 c1 c2 n2 n2 (xs.take n2) ys w (h1.take n2) h2 (by simp; omega) hn2
 have HN := Lib.hid (And.intro hn1 (And.intro hn2 he))
 clear h1 h2 hn1 hn2 he
 have hlt2 : n2 <= c1 := by omega
 go_enter Tryz.func22, Tryz.ntmps22
 go_wp2_with fail
 refine HN.out.2.2.mono ?_
 rintro e w' ⟨rfl, rfl⟩
 go_wp2_with fail
 go_returns
 exact ⟨rfl, rfl⟩
def up (c : UInt8) : UInt8 := if 97 <= c.toNat /\ c.toNat <= 122 then c - 32 else c
def up20 (l : List UInt8) : List UInt8 := (l.take 20).map up ++ List.replicate (20 - l.length) 0
def upc (l : List UInt8) (k : Nat) : Array Value := (cel (((l.take k).map up) ++ List.replicate (20 - k) 0)).toArray
theorem upc_set {l : List UInt8} {k : Nat} {c : UInt8} (hk : k < 20) (h : l[k]? = some c) : (upc l k).setIfInBounds k (.int .u8 (up c).toNat) = upc l (k + 1) := by
 obtain ⟨hi, rfl⟩ := List.getElem?_eq_some_iff.1 h
 unfold upc cel
 rw [List.setIfInBounds_toArray]
 congr 1
 rw [List.take_succ_eq_append_getElem hi, show 20 - k = (20 - (k + 1)) + 1 from by omega, List.replicate_succ]
 simp only [List.map_append, List.map_cons, List.map_nil, List.append_assoc]
 rw [List.set_append_right _ _ (by simp; omega)]
 simp [Nat.min_eq_left (Nat.le_of_lt hi)]
theorem upc_at {l : List UInt8} {k : Nat} (hl : k <= l.length) (hk : k < 20) : (upc l k)[k]? = some (.int .u8 0) := by
 unfold upc cel
 rw [List.getElem?_toArray, List.map_append, List.getElem?_append_right (by simp; omega)]
 simp only [List.map_replicate, List.length_map, List.length_take, Nat.min_eq_left hl, Nat.sub_self]
 rw [List.getElem?_replicate, if_pos (by omega)]; rfl
theorem bytes_new (w : World) (xs : List UInt8) : Bytes (w.alloc (Obj.cells (cel xs).toArray 5)) w.heap.size xs := by
 intro i c hi
 rw [cell_of_row _ _ i _ _ _ (heap_alloc_new w _)]
 simp [cel, hi]
theorem up_yes {c : UInt8} (h1 : 97 <= (c.toNat : Int)) (h2 : (c.toNat : Int) <= 122) : ((up c).toNat : Int) = c.toNat - 32 := by
 unfold up
 rw [if_pos (by omega)]
 have : (32 : UInt8) <= c := by rw [UInt8.le_iff_toNat_le]; simp; omega
 rw [UInt8.toNat_sub_of_le _ _ this]; simp; omega
theorem up_no {c : UInt8} (h : ¬ (97 <= (c.toNat : Int) /\ (c.toNat : Int) <= 122)) : up c = c := by
 unfold up; rw [if_neg (by omega)]
def UpRel (l : List UInt8) (w : World) (i : Value) (wr : World) : Prop := ∃ k : Nat, k <= 20 /\ k <= l.length /\ i = .int .i64 k /\ wr = w.alloc (Obj.cells (upc l k) 5)
def UpPost (l : List UInt8) (w : World) (e : Ending) (w' : World) : Prop := ∃ b, e = .returned (.slice (some ⟨b, 0, none⟩) 20 20) /\ Bytes w' b (up20 l) /\ Below w.heap.size w w'
theorem upperPrefix_any (s : ByteArray) (w : World) (hs : s.size <= 1099511627776) :
  Calls Tryz.prog 21 #[.string s] w (UpPost (ls s) w) := by
 have hmk : ∀ w : World, (Instr.makeSlice 66 (.int .i64 20) (.int .i64 20)).run Tryz.prog w = .ok (.slice (some ⟨w.heap.size, 0, none⟩) 20 20) (w.alloc (Obj.cells (upc [] 0) 5)) := fun _ => by kernel_rfl
 go_enter Tryz.func21, Tryz.ntmps21
 go_wp2_with fail
 go_loopw [4] (fun i wr => UpRel (ls s) w i wr) (fun i _ => 20 - (intOf i).toNat)
 case atStart => exact ⟨0, by omega, by omega, rfl, rfl⟩
 case round =>
  clear hmk
  obtain ⟨k, hk, hkl, rfl, rfl⟩ := hrel
  rw [ls_length] at hkl
  by_cases hlt : k < 20 /\ k < s.size
  ·obtain ⟨h20, hlt⟩ := hlt
   have HG := Lib.hid (ls_getElem? s k hlt)
   have hcell := upc_at (l := ls s) (k := k) (by rw [ls_length]; omega) h20
   go_wp2_with fail
   ·go_roundw
    case rel => exact ⟨k + 1, by omega, by rw [ls_length]; omega, by go_num, by rw [<- upc_set h20 HG.out, up_yes (by assumption) (by assumption)]⟩
    case measure => simp [intOf]; omega
   ·go_roundw
    case rel => exact ⟨k + 1, by omega, by rw [ls_length]; omega, by go_num, by rw [<- upc_set h20 HG.out, up_no (by omega)]⟩
    case measure => simp [intOf]; omega
   ·go_roundw
    case rel => exact ⟨k + 1, by omega, by rw [ls_length]; omega, by go_num, by rw [<- upc_set h20 HG.out, up_no (by omega)]⟩
    case measure => simp [intOf]; omega
  ·have hend : upc (ls s) k = (cel (up20 (ls s))).toArray := by
    unfold upc up20
    congr 2
    by_cases h20 : k = 20
    ·subst h20
     rw [ls_length, show 20 - s.size = 0 from by omega]
    ·have hks : k = s.size := by omega
     subst hks
     rw [ls_length, List.take_of_length_le (by rw [ls_length]; omega), List.take_of_length_le (by rw [ls_length]; omega)]
   have HE := Lib.hid hend
   have hfin : UpPost (ls s) w (.returned (.slice (some ⟨w.heap.size, 0, none⟩) 20 20)) (w.alloc (Obj.cells (upc (ls s) k) 5)) := by
    refine ⟨w.heap.size, rfl, ?_, (Below.refl _ _).alloc (Nat.le_refl _) _⟩
    rw [hend]
    exact bytes_new _ _
   clear hend
   have HF := Lib.hid hfin
   clear hfin
   by_cases h20 : k < 20
   ·go_wp2_with fail
    go_returns
    exact HF.out
   ·go_wp2_with fail
    go_returns
    exact HF.out
def gc (l : List UInt8) : List UInt8 -> Nat -> Int -> Nat -> List (List UInt8)
 | [], _, _, st => [trim (l.drop st)]
 | c :: r, i, d, st =>
  if c = 40 then gc l r (i + 1) (d + 1) st
  else if c = 41 then gc l r (i + 1) (d - 1) st
  else if c = 44 then (if d = 0 then trim ((l.drop st).take (i - st)) :: gc l r (i + 1) d (i + 1) else gc l r (i + 1) d st)
  else gc l r (i + 1) d st
def members (l : List UInt8) : List (List UInt8) := gc l l 0 0 0
theorem info9 : (Tryz.prog.info? 9).map (fun i => (i.zero, i.size, i.bytes)) = some (some (.string ByteArray.empty), 1, 16) := by kernel_rfl
def strs (ps : List (List UInt8)) : List Value := ps.map fun p => .string (bs p)
def GcRel (l : List UInt8) (w : World) (v d st i : Value) (wr : World) : Prop :=
 ∃ (k : Nat) (ps : List (List UInt8)) (dep : Int) (s : Nat), k <= l.length /\ s <= k /\ -(k : Int) <= dep /\ dep <= k /\ i = .int .i64 k /\ st = .int .i64 s /\ d = .int .i64 dep /\ ps.length <= k /\
  wr.ownsRow w.heap.size 9 1 v ps.length (strs ps) /\ ps ++ gc l (l.drop k) k dep s = members l /\ Below w.heap.size w wr
def GcPost (l : List UInt8) (w : World) (e : Ending) (w' : World) : Prop :=
 Below w.heap.size w w' /\ ((∃ r v, brk l = some r /\ e = .returned (.tuple #[v, .nilIface]) /\ Row w' 9 1 v (members r).length (strs (members r))) \/ (brk l = none /\ ∃ t v, e = .returned (.tuple #[.slice none 0 0, .iface t v])))
theorem brk_len {l r : List UInt8} (h : brk l = some r) : r.length <= l.length := by
 unfold brk at h
 have := trim_len l
 split at h
 ·injection h with h; subst h; simp
 ·rename_i c r' heq
  rw [heq] at this
  split at h
  ·split at h
   ·split at h
    ·injection h with h; subst h
     have := trim_len r'.dropLast
     simp only [List.length_dropLast, List.length_cons] at *; omega
    ·cases h
   ·cases h
  ·cases h
theorem splitColl_any (s : ByteArray) (w : World) (hs : s.size <= 1099511627776) (henv : Env w) :
  Calls Tryz.prog 59 #[.string s] w (GcPost (ls s) w) := by
 obtain ⟨i0, hi, hz0, hz1, hz2⟩ := info_parts info9
 have hmk : ∀ w : World, (Instr.makeSlice 108 (.int .i64 0) (.int .i64 0)).run Tryz.prog w = .ok (.slice (some ⟨w.heap.size, 0, none⟩) 0 0) (w.alloc (Obj.cells #[] 9)) := fun _ => by kernel_rfl
 go_enter Tryz.func59, Tryz.ntmps59
 go_wp2_with fail
 refine (trimSpaceBrackets_any s w hs henv).mono ?_
 rintro e w1 ⟨hb, ⟨r, hr, rfl⟩ | ⟨hr, t, v, rfl⟩⟩
 ·have HB := Lib.hid (And.intro hb hr)
  have hrl := brk_len hr
  rw [ls_length] at hrl
  clear hb hr
  obtain ⟨q, hq⟩ : ∃ q, bs r = q := ⟨_, rfl⟩
  have hql : ls q = r := by rw [<- hq, ls_bs]
  have hqs : q.size <= s.size := by rw [<- ls_length q, hql]; exact hrl
  rw [hq]
  have HQ := Lib.hid hql
  clear hq hql hrl
  go_wp2_with fail
  go_loopw [5, 6, 7, 8] (fun v d st i wr => GcRel (ls q) w1 v d st i wr) (fun _ _ _ i _ => q.size - (intOf i).toNat)
  case atStart => exact ⟨0, [], 0, 0, by omega, by omega, by omega, by omega, rfl, rfl, rfl, by simp, World.ownsRow_made w1 #[] 0 (Nat.le_refl _) (by unfold maxLen; omega) rfl, rfl, (Below.refl _ _).alloc (Nat.le_refl _) _⟩
  case round =>
   clear hmk
   obtain ⟨k, ps, dep, st, hk, hst, hd1, hd2, rfl, rfl, rfl, hps, hown, hrun, hbel⟩ := hrel
   rw [ls_length] at hk
   have HP := Lib.hid (And.intro hrun hbel)
   have hsz := hbel.size
   clear hrun hbel
   by_cases hlt : k < q.size
   ·have HD := Lib.hid (List.drop_eq_getElem_cons (l := ls q) (i := k) (by rw [ls_length]; exact hlt))
    have HG := Lib.hid (show (ls q)[k]'(by rw [ls_length]; exact hlt) = q[k] from rfl)
    by_cases h40 : q[k] = 40
    ·have hv : (q[k].toNat : Int) = 40 := by rw [h40]; rfl
     have HC := Lib.hid h40
     clear h40
     go_wp2_with fail
     go_roundw
     case rel =>
      refine ⟨k + 1, ps, dep + 1, st, by rw [ls_length]; omega, by omega, by omega, by omega, by go_num, rfl, rfl, by omega, hown, ?_, HP.out.2⟩
      rw [<- HP.out.1, HD.out, HG.out, gc, if_pos HC.out]
     case measure => simp [intOf]; omega
    by_cases h41 : q[k] = 41
    ·have hv : (q[k].toNat : Int) = 41 := by rw [h41]; rfl
     have HC := Lib.hid h41
     have HC0 := Lib.hid h40
     clear h41 h40
     go_wp2_with fail
     go_roundw
     case rel =>
      refine ⟨k + 1, ps, dep - 1, st, by rw [ls_length]; omega, by omega, by omega, by omega, by go_num, rfl, rfl, by omega, hown, ?_, HP.out.2⟩
      rw [<- HP.out.1, HD.out, HG.out, gc, if_neg HC0.out, if_pos HC.out]
     case measure => simp [intOf]; omega
    by_cases h44 : q[k] = 44
    ·have hv : (q[k].toNat : Int) = 44 := by rw [h44]; rfl
     have HC := Lib.hid (And.intro h44 (And.intro h40 h41))
     clear h44 h41 h40
     by_cases hd : dep = 0
     ·subst hd
      have htrim := trimSpace_any (q.extract st k) wr (by rw [ByteArray.size_extract]; omega)
      rw [ls_extract] at htrim
      generalize hp : trim (((ls q).drop st).take (k - st)) = p at htrim
      have HT := Lib.hid htrim
      have HPp := Lib.hid hp
      clear htrim hp
      go_wp2_with (first | (go_at_call 20; refine HT.out.mono ?_; rintro e w' ⟨rfl, rfl⟩) | (at_builtin; refine wpList_append_own _ rfl (.tmp 39) (.tmp 45) 108 rfl w1.heap.size 9 i0 (.string ByteArray.empty) 1 16 Tryz.underlying108 hi hz0 hz1 hz2 rfl (by decide) _ _ _ rfl (hown.alloc _) ⟨wr.heap.size, 0, none⟩ 1 1 [.string (bs p)] rfl rfl ?c1 ?c2 ?c3 ?c4 ?c5 ?_))
      case c1 => exact one_new (by simp)
      case c2 => exact one_cell rfl
      case c3 => unfold maxLen; omega
      case c4 => omega
      case c5 => simp; omega
      intro v' w2 hown1 hgrow1 hnn
      have HW := Lib.hid (And.intro hown1 hgrow1)
      clear hown1 hgrow1 hnn
      go_wp2_with fail
      go_roundw
      case rel =>
       obtain ⟨hown1, hgrow1⟩ := HW.out
       have k2 := Keep.grown (S := fun t => t = 9) (hown.alloc _ : World.ownsRow _ _ _ _ u5 ps.length (strs ps)) hgrow1 rfl
       have k1 : Keep w1.heap.size (fun t => t = 9) wr w2 := (Keep.alloc _).trans k2
       refine ⟨k + 1, ps ++ [p], 0, k + 1, by rw [ls_length]; omega, by omega, by omega, by omega, by go_num, by go_num, rfl, by simp; omega, by simpa [strs] using hown1, ?_, HP.out.2.trans (k1.below' (by omega))⟩
       rw [<- HP.out.1, HD.out, HG.out, gc, if_neg HC.out.2.1, if_neg HC.out.2.2, if_pos HC.out.1, if_pos rfl, <- HPp.out]; simp
      case measure => simp [intOf]; omega
     ·have hdb : (dep == 0) = false := by rw [beq_eq_false_iff_ne]; exact hd
      have HDp := Lib.hid hd
      clear hd
      go_wp2_with fail
      go_roundw
      case rel =>
       refine ⟨k + 1, ps, dep, st, by rw [ls_length]; omega, by omega, by omega, by omega, by go_num, rfl, rfl, by omega, hown, ?_, HP.out.2⟩
       rw [<- HP.out.1, HD.out, HG.out, gc, if_neg HC.out.2.1, if_neg HC.out.2.2, if_pos HC.out.1, if_neg HDp.out]
      case measure => simp [intOf]; omega
    ·have v1 := ne_int (n := 40) (by omega) h40
     have v2 := ne_int (n := 41) (by omega) h41
     have v3 := ne_int (n := 44) (by omega) h44
     have HC := Lib.hid (And.intro h40 (And.intro h41 h44))
     clear h40 h41 h44
     go_wp2_with fail
     go_roundw
     case rel =>
      refine ⟨k + 1, ps, dep, st, by rw [ls_length]; omega, by omega, by omega, by omega, by go_num, rfl, rfl, by omega, hown, ?_, HP.out.2⟩
      rw [<- HP.out.1, HD.out, HG.out, gc, if_neg HC.out.1, if_neg HC.out.2.1, if_neg HC.out.2.2]
     case measure => simp [intOf]; omega
   ·have hsq : st <= q.size := by omega
    have htrim := trimSpace_any (q.extract st q.size) wr (by rw [ByteArray.size_extract]; omega)
    rw [ls_extract, List.take_of_length_le (by simp [ls_length])] at htrim
    generalize hp : trim ((ls q).drop st) = p at htrim
    have HT := Lib.hid htrim
    have HPp := Lib.hid hp
    clear htrim hp
    go_wp2_with (first | (go_at_call 20; refine HT.out.mono ?_; rintro e w' ⟨rfl, rfl⟩) | (at_builtin; refine wpList_append_own _ rfl (.tmp 49) (.tmp 54) 108 rfl w1.heap.size 9 i0 (.string ByteArray.empty) 1 16 Tryz.underlying108 hi hz0 hz1 hz2 rfl (by decide) _ _ _ rfl (hown.alloc _) ⟨wr.heap.size, 0, none⟩ 1 1 [.string (bs p)] rfl rfl ?c1 ?c2 ?c3 ?c4 ?c5 ?_))
    case c1 => exact one_new (by simp)
    case c2 => exact one_cell rfl
    case c3 => unfold maxLen; omega
    case c4 => omega
    case c5 => simp; omega
    intro v' w2 hown1 hgrow1 hnn
    have HW := Lib.hid (And.intro hown1 hgrow1)
    clear hown1 hgrow1 hnn
    go_wp2_with fail
    go_returns
    obtain ⟨hown1, hgrow1⟩ := HW.out
    have k2 := Keep.grown (S := fun t => t = 9) (hown.alloc _ : World.ownsRow _ _ _ _ u5 ps.length (strs ps)) hgrow1 rfl
    have k1 : Keep w1.heap.size (fun t => t = 9) wr w2 := (Keep.alloc _).trans k2
    have hbl := HP.out.2.trans (k1.below' hsz)
    refine ⟨HB.out.1.trans (hbl.mono HB.out.1.size), .inl ⟨r, v', HB.out.2, rfl, ?_⟩⟩
    have hm : members r = ps ++ [p] := by
     rw [<- HQ.out, <- HP.out.1, List.drop_eq_nil_of_le (by rw [ls_length]; omega), gc, <- HPp.out]
    rw [hm]
    exact Row.of (by simpa [strs] using hown1)
 ·have HB := Lib.hid (And.intro hb hr)
  clear hb hr
  go_wp2_with fail
  go_returns
  exact ⟨HB.out.1, .inr ⟨HB.out.2, _, _, rfl⟩⟩
end Go.Proofs.YtdfolbmoohcblaaGreatDoor
