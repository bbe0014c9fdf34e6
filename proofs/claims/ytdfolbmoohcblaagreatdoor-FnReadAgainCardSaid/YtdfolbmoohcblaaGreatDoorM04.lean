/-
For FnReadAgain, part 4: W3a.
-/
import Derived.Test.YtdfolbmoohcblaaGreatDoorM03
import Derived.Deep.LoopGhost
set_option linter.all false
namespace Go.Proofs.YtdfolbmoohcblaaGreatDoor
set_option maxHeartbeats 4000000
set_option maxRecDepth 100000
open Go.RowKit
def okT (b : UInt8) : Bool := b == 32 || (decide (65 <= b.toNat) && decide (b.toNat <= 90) && b != 75)
def eqf (a b : UInt8) : Bool := a == b || (decide (65 <= b.toNat) && decide (b.toNat <= 90) && decide (a.toNat = b.toNat + 32))
def foldEq (a b : List UInt8) : Bool := a.length == b.length && (a.zip b).all (fun p => eqf p.1 p.2)
def low128 (l : List UInt8) : Bool := l.all (fun c => decide (c.toNat < 128))
def EfPost (l T : List UInt8) (w : World) (e : Ending) (w' : World) : Prop := Below w.heap.size w w' /\ ∃ b, e = .returned (.bool b) /\ (low128 l = true -> b = foldEq l T)
def EfJ (s t : ByteArray) (w : World) (a' : Act) (w' : World) : Prop := w = w' /\ ∃ (k : Nat) (u4 u6 u7 u8 u14 u15 u16 u17 u18 u19 u20 u21 u22 u23 u24 u25 u26 u27 u28 u29 u30 u31 u32 u33 u34 u35 u36 u37 u38 u39 u40 u41 u42 u43 u44 u45 u46 u47 u48 u49 u50 u51 u52 u53 u54 : Value), k <= s.size /\ k <= t.size /\ low128 (ls s) = false /\ a' = { tmps := #[Value.string s, Value.string t, undef, undef, u4, .int .i64 (k : Int), u6, u7, u8, undef, undef, undef, undef, undef, u14, u15, u16, u17, u18, u19, u20, u21, u22, u23, u24, u25, u26, u27, u28, u29, u30, u31, u32, u33, u34, u35, u36, u37, u38, u39, u40, u41, u42, u43, u44, u45, u46, u47, u48, u49, u50, u51, u52, u53, u54, undef, undef, undef, undef, undef, undef, undef, undef, undef, undef, undef, undef, undef, undef, undef, undef, undef, undef, undef, undef, undef, undef, undef, undef, undef, undef, undef, undef, undef, undef, undef, undef, undef, undef, undef, undef, undef, undef, undef, undef, undef, undef, undef, undef, undef, undef, undef, undef, undef, undef, undef, undef, undef, undef, undef, undef, undef, undef, undef, undef, undef, undef, undef, undef, undef, undef, undef, undef], defers := [] }
def EfRel (s t : ByteArray) (i : Value) : Prop := ∃ k : Nat, k <= s.size /\ k <= t.size /\ i = .int .i64 k /\ (∀ j, j < k -> ∀ a b, (ls s)[j]? = some a -> (ls t)[j]? = some b -> eqf a b = true /\ a.toNat < 128)
def EfRel2 (w : World) (S : ByteArray) (n : Nat) (v1 : Value) (wr : World) : Prop :=
  ∃ (T : List UInt8) (pos : Nat), T.all okT = true /\ T.length <= 100 /\ S.size - pos <= n /\ v1 = .string (bs T) /\ wr = w.iter S pos
theorem eqf_iff (a b : UInt8) : eqf a b = true ↔ (a.toNat : Int) = b.toNat \/ (65 <= (b.toNat : Int) /\ (b.toNat : Int) <= 90 /\ (a.toNat : Int) = b.toNat + 32) := by
  unfold eqf
  simp only [Bool.or_eq_true, Bool.and_eq_true, beq_iff_eq, decide_eq_true_eq]
  rw [<- UInt8.toNat_inj]; omega
theorem okT_iff {b : UInt8} (h : okT b = true) : (b.toNat : Int) = 32 \/ (65 <= (b.toNat : Int) /\ (b.toNat : Int) <= 90) := by
  unfold okT at h
  simp only [Bool.or_eq_true, Bool.and_eq_true, beq_iff_eq, decide_eq_true_eq] at h
  rcases h with h | h
  · subst h; left; rfl
  · right; omega
theorem okT_at {t : ByteArray} {k : Nat} (hT : (ls t).all okT = true) (hk : k < t.size) : okT t[k] = true := by
  rw [List.all_eq_true] at hT
  exact hT _ (List.mem_of_getElem? (ls_getElem? t k hk))
theorem bits_or_u8 (a b : UInt8) : bits .or .u8 (a.toNat : Int) (b.toNat : Int) = ((a.toNat ||| b.toNat : Nat) : Int) := by
  have h : ∀ c : UInt8, BitVec.ofInt 8 (c.toNat : Int) = c.toBitVec := fun c => by
    apply BitVec.eq_of_toNat_eq; rw [BitVec.ofInt_natCast, BitVec.toNat_ofNat]; exact Nat.mod_eq_of_lt c.toNat_lt
  have hlt : (a.toNat ||| b.toNat) < 256 := Nat.or_lt_two_pow (n := 8) a.toNat_lt b.toNat_lt
  simp only [bits, IntKind.bits, h]
  exact IntWalk.u8_in _ (by omega)
theorem or_lo {a b : UInt8} (ha : (a.toNat : Int) < 128) (hb : (b.toNat : Int) < 128) : bits .or .u8 (a.toNat : Int) (b.toNat : Int) < 128 := by
  rw [bits_or_u8]; have := Nat.or_lt_two_pow (n := 7) (x := a.toNat) (y := b.toNat) (by omega) (by omega); omega
theorem or_hi {a b : UInt8} (ha : 128 <= (a.toNat : Int)) : 128 <= bits .or .u8 (a.toNat : Int) (b.toNat : Int) := by
  rw [bits_or_u8]; have := Nat.left_le_or (n := a.toNat) (m := b.toNat); omega
theorem ef_step {s t : ByteArray} {k : Nat} (hpre : ∀ j, j < k -> ∀ a b, (ls s)[j]? = some a -> (ls t)[j]? = some b -> eqf a b = true /\ a.toNat < 128) (h1 : k < s.size) (h2 : k < t.size) (he : eqf s[k] t[k] = true) (hlo : (s[k].toNat : Int) < 128) : EfRel s t (.int .i64 ((k : Int) + 1)) := by
  refine ⟨k + 1, h1, h2, by go_num, fun j hj a b ha hb => ?_⟩
  by_cases hjk : j = k
  · subst hjk
    rw [ls_getElem? s j h1] at ha; rw [ls_getElem? t j h2] at hb
    injection ha with ha; injection hb with hb; subst ha; subst hb
    exact ⟨he, by omega⟩
  · exact hpre j (by omega) a b ha hb
theorem ef_no {s t : ByteArray} {k : Nat} (w : World) (h1 : k < s.size) (h2 : k < t.size) (he : ¬ eqf s[k] t[k] = true) : EfPost (ls s) (ls t) w (.returned (.bool false)) w := by
  refine ⟨Below.refl _ _, false, rfl, fun _ => ?_⟩
  symm
  rw [Bool.eq_false_iff]
  intro hf
  unfold foldEq at hf
  rw [Bool.and_eq_true, List.all_eq_true] at hf
  apply he
  refine hf.2 (s[k], t[k]) (List.mem_of_getElem? (i := k) ?_)
  rw [List.getElem?_zip_eq_some]
  exact ⟨ls_getElem? s k h1, ls_getElem? t k h2⟩
theorem ef_end {s t : ByteArray} {k : Nat} (w : World) (hpre : ∀ j, j < k -> ∀ a b, (ls s)[j]? = some a -> (ls t)[j]? = some b -> eqf a b = true /\ a.toNat < 128) (hk : s.size <= k \/ t.size <= k) : EfPost (ls s) (ls t) w (.returned (.bool ((s.size : Int) == (t.size : Int)))) w := by
  refine ⟨Below.refl _ _, _, rfl, fun _ => ?_⟩
  unfold foldEq
  have : ((ls s).zip (ls t)).all (fun p => eqf p.1 p.2) = true := by
    rw [List.all_eq_true]
    intro p hp
    obtain ⟨j, hj⟩ := List.getElem?_of_mem hp
    rw [List.getElem?_zip_eq_some] at hj
    have hjs := lt_of_at hj.1
    have hjt := lt_of_at hj.2
    exact (hpre j (by omega) _ _ hj.1 hj.2).1
  rw [this, Bool.and_true, ls_length, ls_length, Bool.eq_iff_iff, beq_iff_eq, beq_iff_eq]; omega
theorem EqualFold_any (s t : ByteArray) (w : World) (hs : s.size <= 1099511627776) (ht : t.size <= 100) (hT : (ls t).all okT = true) (hf : Fold w) :
    Calls Tryz.prog 42 #[.string s, .string t] w (EfPost (ls s) (ls t) w) := by
  by_cases hts : t.size < s.size
  all_goals
  have HT := Lib.hid (And.intro hT hf)
  clear hT hf
  go_enter Tryz.func42, Tryz.ntmps42
  go_wp2_with fail
  refine wp_scope_jumps 0 (EfJ s t w) (fun _ _ => 0) rfl ?_ ?_
  · go_wp2_with fail
    go_loop [5, 7, 8] (fun i _ _ => EfRel s t i) (fun i _ _ => s.size - (intOf i).toNat)
    case atStart => exact ⟨0, by omega, by omega, rfl, by intro j hj; omega⟩
    case round =>
      obtain ⟨k, hk1, hk2, rfl, hpre⟩ := hrel
      have HP := Lib.hid hpre
      clear hpre
      by_cases hlt : k < s.size /\ k < t.size
      · obtain ⟨hl1, hl2⟩ := hlt
        have hok := okT_iff (okT_at HT.out.1 hl2)
        by_cases h128 : (s[k].toNat : Int) < 128
        · have hor := or_lo h128 (show (t[k].toNat : Int) < 128 by omega)
          have hor2 : ¬ (128 <= bits .or .u8 (s[k].toNat : Int) (t[k].toNat : Int)) := by omega
          have HO := Lib.hid hok
          clear hok
          go_wp2_with fail
          all_goals
            simp only [beq_iff_eq, beq_eq_false_iff_ne] at *
            have hok := HO.out
            have hef := eqf_iff s[k] t[k]
            first
            | exact ⟨ef_step HP.out hl1 hl2 (hef.2 (by omega)) h128, by simp [intOf]; omega⟩
            | (exfalso; omega)
            | (go_returns; exact ef_no w hl1 hl2 (fun h => by have := hef.1 h; omega))
            | skip
        · have hor := or_hi (a := s[k]) (b := t[k]) (by omega)
          have HL : Hid (low128 (ls s) = false) := by
            show _ = _
            rw [Bool.eq_false_iff]; intro h
            unfold low128 at h; rw [List.all_eq_true] at h
            have := h _ (List.mem_of_getElem? (ls_getElem? s k hl1))
            simp only [decide_eq_true_eq] at this; omega
          go_wp2_with fail
          go_step3
          refine ⟨rfl, rfl, k, ?_⟩
          iterate 45 apply Exists.intro
          exact ⟨hk1, hk2, HL.out, rfl⟩
      · go_wp2_with fail
        go_returns
        exact ef_end w HP.out (by omega)
  · rintro a' w' ⟨rfl, k, u4, u6, u7, u8, u14, u15, u16, u17, u18, u19, u20, u21, u22, u23, u24, u25, u26, u27, u28, u29, u30, u31, u32, u33, u34, u35, u36, u37, u38, u39, u40, u41, u42, u43, u44, u45, u46, u47, u48, u49, u50, u51, u52, u53, u54, hk1, hk2, hlow, rfl⟩
    have HL := Lib.hid hlow
    clear hlow
    obtain ⟨T, hTT⟩ : ∃ T, t.extract k t.size = bs T := ⟨_, extract_bs _ _ _⟩
    have hTok : T.all okT = true /\ T.length <= 100 := by
      have h1 : T = (ls t).drop k := by
        have := congrArg ls hTT; rw [ls_extract, ls_bs, List.take_of_length_le (by simp [ls_length])] at this; exact this.symm
      subst h1
      refine ⟨?_, by rw [List.length_drop, ls_length]; omega⟩
      rw [List.all_eq_true]
      intro x hx
      exact (List.all_eq_true.1 HT.out.1) x (List.mem_of_mem_drop hx)
    have HTok := Lib.hid hTok
    clear hTok
    obtain ⟨S, hS⟩ : ∃ S, s.extract k s.size = S := ⟨_, rfl⟩
    have hSs : S.size <= 1099511627776 := by rw [<- hS, ByteArray.size_extract]; omega
    have HSS := Lib.hid (And.intro hTT hS)
    clear hTT hS
    go_wp2_with fail
    rw [HSS.out.1, HSS.out.2]
    go_loopg [1, 10, 11, 12, 13] S.size (fun n v1 _ _ _ _ wr => EfRel2 w S n v1 wr)
    case atStart => exact ⟨T, 0, HTok.out.1, HTok.out.2, by omega, rfl, rfl⟩
    case round =>
      clear HTok
      obtain ⟨T', pos, hT1, hT2, hpos, rfl, rfl⟩ := hrel
      have hbel : ∀ p, Below w.heap.size w (w.iter S p) := fun p => (Below.refl _ _).alloc (Nat.le_refl _) _
      have HB := Lib.hid hbel
      clear hbel
      by_cases hp : pos < S.size
      · have hn := fun ty => run_next_any (P := Tryz.prog) w S pos ty hp
        have hsz : 1 <= (Utf8.decode S pos).2 := by
          by_cases hlo : (S[pos]'hp).toNat < 128
          · rw [decode_ascii S pos hp hlo]; exact Nat.le_refl _
          · exact (decode_high S pos hp (by omega)).2
        have hle := decode_le S pos
        generalize (Utf8.decode S pos).1 = ρ at hn hle
        generalize (Utf8.decode S pos).2 = sz at hn hsz
        cases T' with
        | nil =>
          have he : ((bs ([] : List UInt8)).size : Int) = 0 := rfl
          go_wp2_with fail
          go_returns
          exact ⟨HB.out _, _, rfl, fun h => by rw [HL.out] at h; cases h⟩
        | cons b r =>
          have he : (((bs (b :: r)).size : Int) == 0) = false := by rw [bs_size, beq_eq_false_iff_ne, List.length_cons]; omega
          have hex : (bs (b :: r)).extract 1 (bs (b :: r)).size = bs r := by
            rw [extract_bs, ls_bs, bs_size, List.drop_succ_cons, List.drop_zero, List.take_of_length_le (by simp)]
          have hb1 : (1 : Int) <= (bs (b :: r)).size := by rw [bs_size, List.length_cons]; omega
          rw [List.all_cons, Bool.and_eq_true] at hT1
          have hbv := okT_iff hT1.1
          have hdec := fun w => Decode_low b r w (by omega) (by rw [List.length_cons] at hT2; omega)
          have HT2 := Lib.hid (And.intro hT1 (And.intro hT2 hdec))
          clear hT1 hT2 hdec
          have hgk : 0 < gk := by omega
          by_cases hρ : ρ < 128
          · go_wp2_with fail
            refine (HT2.out.2.2 _).mono ?_
            rintro e w' ⟨rfl, rfl⟩
            go_wp2_with fail
            all_goals
              first
              | (go_returns; exact ⟨HB.out _, _, rfl, fun h => by rw [HL.out] at h; cases h⟩)
              | (go_roundg (gk - 1)
                 case measure => omega
                 case rel => exact ⟨r, pos + sz, HT2.out.1.2, by have := HT2.out.2.1; rw [List.length_cons] at this; omega, by omega, rfl, rfl⟩)
          · obtain ⟨n, hn1⟩ : ∃ n, n = b.toNat := ⟨_, rfl⟩
            have hn2 : n = 32 \/ (65 <= n /\ n <= 90 /\ n ≠ 75) := by
              have h1 := HT2.out.1.1
              unfold okT at h1
              simp only [Bool.or_eq_true, Bool.and_eq_true, beq_iff_eq, decide_eq_true_eq, bne_iff_ne] at h1
              rcases h1 with h1 | ⟨h1, h2⟩
              · left; rw [hn1, h1]; rfl
              · right
                refine ⟨by omega, by omega, ?_⟩
                rintro h3; apply h2; apply UInt8.toNat_inj.1; rw [<- hn1, h3]; rfl
            have hnρ : ((n : Int) == (ρ : Int)) = false := by rw [beq_eq_false_iff_ne]; omega
            have hlt : n < ρ := by omega
            have hfo := fun p => HT.out.2.below (HB.out p)
            have HD : Hid (∀ w, Calls Tryz.prog 67 #[.string (bs (b :: r))] w fun e w' => e = .returned (.tuple #[.int .i32 n, .int .i64 1]) /\ w = w') := by rw [hn1]; exact HT2.out.2.2
            have HN := Lib.hid (And.intro hn1 hfo)
            clear hn1 hfo hbv
            go_wp2_with fail
            refine (HD.out _).mono ?_
            rintro e w' ⟨rfl, rfl⟩
            go_wp2_with fail
            refine (SimpleFold_low n _ (by omega) (HN.out.2 _)).mono ?_
            rintro e w' ⟨rfl, rfl⟩
            rcases hn2 with rfl | ⟨hn3, hn4, hn5⟩
            · rw [show afold 32 = 32 from rfl]
              go_wp2_with fail
              refine wp_loop_rounds 1 ?_
              repeat any_goals (rw [rounds_succ]; go_wp2_with fail)
              go_returns
              exact ⟨HB.out _, _, rfl, fun h => by rw [HL.out] at h; cases h⟩
            · rw [show afold n = n + 32 from by unfold afold; rw [if_pos ⟨hn3, hn4⟩]]
              have hb1 : (((n + 32 : Nat) : Int) == (n : Int)) = false := by rw [beq_eq_false_iff_ne]; omega
              have hb2 : (((n + 32 : Nat) : Int) != (n : Int)) = true := by rw [bne_iff_ne]; omega
              have hb3 : ((n + 32 : Nat) : Int) < ρ := by omega
              have hb4 : (((n + 32 : Nat) : Int) == (ρ : Int)) = false := by rw [beq_eq_false_iff_ne]; omega
              generalize hm : n + 32 = m at hb1 hb2 hb3 hb4
              have HM := Lib.hid hm
              clear hm
              go_wp2_with fail
              refine wp_loop_rounds 3 ?_
              rw [rounds_succ]
              go_wp2_with fail
              refine (SimpleFold_low m _ (by have := HM.out; omega) (HN.out.2 _)).mono ?_
              rintro e w' ⟨rfl, rfl⟩
              by_cases h83 : n = 83
              · subst h83
                have hm : m = 115 := HM.out.symm
                subst hm
                rw [show afold 115 = 383 from rfl]
                by_cases h383 : ρ <= 383
                · go_wp2_with fail
                  rw [rounds_succ]
                  go_wp2_with fail
                  all_goals
                    first
                    | (go_returns; exact ⟨HB.out _, _, rfl, fun h => by rw [HL.out] at h; cases h⟩)
                    | (go_roundg (gk - 1)
                       case measure => omega
                       case rel => exact ⟨r, pos + sz, HT2.out.1.2, by have := HT2.out.2.1; rw [List.length_cons] at this; omega, by omega, rfl, rfl⟩)
                · have h384 : (383 : Int) < ρ := by omega
                  go_wp2_with fail
                  rw [rounds_succ]
                  go_wp2_with fail
                  refine (SimpleFold_383 _ (HN.out.2 _)).mono ?_
                  rintro e w' ⟨rfl, rfl⟩
                  go_wp2_with fail
                  rw [rounds_succ]
                  go_wp2_with fail
                  go_returns
                  exact ⟨HB.out _, _, rfl, fun h => by rw [HL.out] at h; cases h⟩
              · rw [show afold m = n from by have := HM.out; unfold afold; rw [if_neg (by omega), if_neg (by omega), if_neg (by omega), if_pos (by omega)]; omega]
                go_wp2_with fail
                rw [rounds_succ]
                go_wp2_with fail
                go_returns
                exact ⟨HB.out _, _, rfl, fun h => by rw [HL.out] at h; cases h⟩
      · have hn := fun ty => run_next_end (P := Tryz.prog) w S pos ty hp
        go_wp2_with fail
        go_returns
        exact ⟨HB.out _, _, rfl, fun h => by rw [HL.out] at h; cases h⟩
end Go.Proofs.YtdfolbmoohcblaaGreatDoor
