/-
For FnReadAgain, part 6: W4e.
-/
import Derived.Test.YtdfolbmoohcblaaGreatDoorM05
import Derived.Lib.SmallJoins
set_option linter.all false
namespace Go.Proofs.YtdfolbmoohcblaaGreatDoor
set_option maxHeartbeats 1000000
set_option maxRecDepth 100000
open Go.RowKit
theorem blen_pos (d : Nat) (h : d ≠ 0) : 1 <= blen d := by unfold blen; rw [if_neg h]; omega
theorem blen_lt (d : Nat) : d < 2 ^ blen d := by unfold blen; split; · omega
                                                 · exact Nat.lt_log2_self
theorem blen_le (d : Nat) (h : d ≠ 0) : 2 ^ (blen d - 1) <= d := by unfold blen; rw [if_neg h]; exact Nat.log2_self_le h
theorem blen_64 (d : Nat) (h : d < 18446744073709551616) : blen d <= 64 := by
  by_cases h0 : d = 0
  · subst h0; decide
  · have := blen_le d h0
    by_cases h64 : 65 <= blen d
    · have h2 : 2 ^ 64 <= 2 ^ (blen d - 1) := Nat.pow_le_pow_right (by omega) (by omega)
      omega
    · omega
theorem norm_x (d : Nat) (h0 : d ≠ 0) (h : d < 18446744073709551616) : 9223372036854775808 <= d * 2 ^ (64 - blen d) /\ d * 2 ^ (64 - blen d) < 18446744073709551616 := by
  have h1 := blen_le d h0
  have h2 := blen_lt d
  have h3 := blen_64 d h
  have h4 := blen_pos d h0
  have hp : 0 < 2 ^ (64 - blen d) := Nat.two_pow_pos _
  constructor
  · have := Nat.mul_le_mul_right (2 ^ (64 - blen d)) h1
    rw [<- Nat.pow_add, show blen d - 1 + (64 - blen d) = 63 from by omega] at this
    exact this
  · have := Nat.mul_lt_mul_of_pos_right h2 hp
    rw [<- Nat.pow_add, show blen d + (64 - blen d) = 64 from by omega] at this
    exact this
theorem or_sg (neg : Bool) (r : Nat) (hr : r < 9223372036854775808) : bits .or .u64 (sg neg : Nat) (r : Int) = ((sg neg + r : Nat) : Int) := by
  rw [bits_or_u64 _ _ (by cases neg <;> decide) (by omega)]
  congr 1
  cases neg
  · show 0 ||| r = 0 + r
    rw [Nat.zero_or, Nat.zero_add]
  · exact (Nat.two_pow_add_eq_or_of_lt (i := 63) hr 1).symm
theorem parseFloat64_any (neg : Bool) (d : Nat) (p : Int) (w : World) (hw : Pow w) (hd0 : d ≠ 0) (hd : d < 18446744073709551616) (h1 : -348 <= p) (h2 : p <= 347) :
    Calls Tryz.prog 145 #[.int .u64 d, .int .i64 p, .int .u64 (sg neg : Nat)] w (ParsePost neg d p w) := by
  have hL := fun w => Len64_any d w hd
  have hG := fun w => log2Pow10_any p w (by omega) (by omega)
  have hb1 := blen_pos d hd0
  have hb2 := blen_64 d hd
  have hfb := fun n => run_frombits n
  obtain ⟨lp, hlp⟩ : ∃ lp, lp = p * 108853 / 32768 := ⟨_, rfl⟩
  obtain ⟨b, hb⟩ : ∃ b : Int, b = blen d := ⟨_, rfl⟩
  obtain ⟨m, hm⟩ : ∃ m : Int, m = 53 - b - lp := ⟨_, rfl⟩
  rw [<- hlp] at hG
  rw [<- hb] at hL
  have hlp1 : -1200 <= lp := by omega
  have hlp2 : lp <= 1200 := by omega
  have hb1' : 1 <= b := by omega
  have hb2' : b <= 64 := by omega
  clear hb1 hb2
  have HH := Lib.hid (And.intro hlp hb)
  clear hlp hb
  go_enter Tryz.func145, Tryz.ntmps145
  go_wp2_with fail
  refine (hL _).mono ?_
  rintro e w' ⟨rfl, rfl⟩
  go_wp2_with fail
  refine (hG _).mono ?_
  rintro e w' ⟨rfl, rfl⟩
  go_wp2_with fail
  obtain ⟨e, he⟩ : ∃ e, e = min 1074 (53 - b - lp) := ⟨_, rfl⟩
  rw [<- he]
  have he1 : e <= 1074 := by omega
  have he2 : e <= 53 - b - lp := by omega
  have he3 : -1300 <= e := by omega
  have HE := Lib.hid (And.intro he hm)
  clear he hm
  obtain ⟨s, hs⟩ : ∃ s, s = -(e - (64 - b) + lp + 3) := ⟨_, rfl⟩
  have hs8 : 8 <= s := by omega
  have hpre := fun x y z => prescale_any w x y z (e - (64 - b)) p lp hw h1 h2 (by omega) (by omega) (by omega) (by omega)
  rw [<- hs] at hpre
  refine (hpre _ _ _).mono ?_
  clear hpre
  have HS := Lib.hid hs
  clear hs
  rintro e' w' ⟨rfl, rfl⟩
  by_cases hs64 : 64 <= s
  · go_wp2_with fail
    go_returns
    refine ⟨(Below.refl _ _).alloc (Nat.le_refl _) _, ?_⟩
    have hn : parseN d p = none := by
      unfold parseN
      simp only []
      rw [<- HH.out.1, <- HH.out.2, <- HE.out.1, <- HS.out, if_pos hs64]
    rw [hn]
    cases neg <;> rfl
  · obtain ⟨x, hx⟩ : ∃ x : Nat, x = d * 2 ^ (64 - blen d) := ⟨_, rfl⟩
    have hx1 : 9223372036854775808 <= x /\ x < 18446744073709551616 := by rw [hx]; exact norm_x d hd0 hd
    have ex : IntKind.u64.wrap (↑d * 2 ^ (64 - b).toNat) = (x : Int) := by
      rw [show (64 - b).toNat = 64 - blen d from by rw [HH.out.2]; omega, hx]
      rw [<- IntWalk.u64_in ((d * 2 ^ (64 - blen d) : Nat) : Int) (by constructor <;> omega)]
      push_cast; rfl
    have HX := Lib.hid hx
    clear hx
    go_wp2_with fail
    obtain ⟨sn, hsn⟩ : ∃ sn : Nat, (sn : Int) = s := ⟨s.toNat, by omega⟩
    have hr := row_at p h1 h2
    have hhx : 18446744073709551616 <= x * hiAt p := Nat.le_trans (by omega) (Nat.mul_le_mul hx1.1 hr.1)
    obtain ⟨u, hu⟩ : ∃ u, u = uscaleN x (hiAt p) (loAt p) sn := ⟨_, rfl⟩
    have hus := uscale_any (w.alloc (Obj.cells #[.int .u64 (hiAt p), .int .u64 (loAt p), .int .i64 s] 192)) w.heap.size x (hiAt p) (loAt p) sn hx1.2 hr.2.1 hr.2.2 (by omega) hhx (Joins.cell_alloc_mark_at w _ _ _ _ 0 rfl) (Joins.cell_alloc_mark_at w _ _ _ _ 1 rfl) (by rw [hsn]; exact Joins.cell_alloc_mark_at w _ _ _ _ 2 rfl)
    have hul : u < 72057594037927936 := by rw [hu]; exact uscaleN_lt _ _ _ _ hx1.2 hr.2.1 (by omega)
    rw [<- hu] at hus
    have HU := Lib.hid (And.intro hu hsn)
    clear hu hsn
    refine hus.mono ?_
    clear hus
    rintro e' w' ⟨rfl, nd, rfl⟩
    go_wp2_with fail
    have hun := fun w => unmin_any 9007199254740992 w (by decide) (by decide)
    have hb2i := fun b w => bool2i_any b w
    by_cases hbig : 36028797018963966 <= u
    · refine (hun _).mono ?_
      rintro e' w' ⟨rfl, rfl⟩
      go_wp2_with (go_at_call 124; refine (hb2i _ _).mono ?_; rintro e' w' ⟨rfl, rfl⟩)
      obtain ⟨v, hv⟩ : ∃ v, v = (if 36028797018963966 <= u then (if u % 2 = 1 then u / 2 / 2 * 2 + 1 else u / 2) else u) := ⟨_, rfl⟩
      have hor : bits BinOp.or IntKind.u64 (↑u / 2 ^ min (decide (36028797018963966 <= (u : Int))).toNat 64) (bits BinOp.and IntKind.u64 (↑u) 1) = (v : Int) := by
        rw [if_pos hbig] at hv
        rw [decide_eq_true (by omega), show min true.toNat 64 = 1 from by decide, bits_and1_u64 u (by omega), show ((u : Int) / 2 ^ 1) = ((u / 2 : Nat) : Int) from by omega]
        rcases Nat.mod_two_eq_zero_or_one u with h0 | h0
        · rw [h0, bits_or_u64 _ _ (by omega) (by omega), Nat.or_zero, hv, if_neg (by omega)]
        · rw [h0, show ((1 : Nat) : Int) = 1 from rfl, bits_or1_u64 _ (by omega), hv, if_pos h0]
      rw [hor]
      have hv2 : v < 36028797018963969 := by rw [hv]; split <;> (try split) <;> omega
      have HV := Lib.hid hv
      clear hv hor
      refine (round_any v _ (by omega)).mono ?_
      rintro e' w' ⟨rfl, rfl⟩
      go_wp2_with fail
      obtain ⟨r, hr'⟩ : ∃ r, r = (v + 1 + v / 4 % 2) / 4 := ⟨_, rfl⟩
      have hrc : ((↑v + 1 + ↑v / 4 % 2) / 4 : Int) = (r : Int) := by omega
      have hr2 : r <= 9007199254740992 := by omega
      have hm := or_sg neg r (by omega)
      rw [hrc, hm]
      obtain ⟨E, hE⟩ : ∃ E, E = (if 36028797018963966 <= u then e - 1 else e) := ⟨_, rfl⟩
      have hec : wrap64 (-wrap64 (e - ((decide (36028797018963966 <= (u : Int))).toNat : Int))) = -E := by
        rw [hE, if_pos hbig, decide_eq_true (by omega), show ((true.toNat : Nat) : Int) = 1 from rfl, IntWalk.wrap64_in (e - 1) (by omega), IntWalk.wrap64_in (-(e - 1)) (by omega)]
      rw [hec]
      have hE2 : -1500 <= E /\ E <= 1074 := by rw [hE]; split <;> omega
      refine (pack64_any neg _ r (-E) _ rfl hr2 (by omega) (by omega)).mono ?_
      have hn : parseN d p = some (r, -E) := by
        unfold parseN
        simp only []
        rw [<- HH.out.1, <- HH.out.2, <- HE.out.1, <- HS.out, if_neg (by omega), <- HU.out.2, Int.toNat_natCast, <- HX.out, <- HU.out.1, <- HV.out, <- hE, <- hr']
      have HN := Lib.hid hn
      clear hn hec hE hr' hrc hm
      rintro e' w' ⟨rfl, hpp⟩
      have HB : Below w.heap.size w ((w.alloc (Obj.cells #[.int .u64 (hiAt p), .int .u64 (loAt p), .int .i64 s] 192)).drewN nd) := ((Below.refl _ _).alloc (Nat.le_refl _) _).trans ⟨rfl, rfl, rfl, Nat.le_refl _, fun _ _ => rfl⟩
      by_cases hc1 : 2 ^ 52 <= r /\ r < 2 ^ 53
      · have HC1 := Lib.hid hc1
        rw [if_pos hc1] at hpp
        by_cases hc2 : 972 <= -E
        · rw [if_pos hc2] at hpp
          obtain ⟨x', rfl⟩ := hpp
          go_wp2_with fail
          go_returns
          refine ⟨HB, ?_⟩
          rw [HN.out]
          exact ⟨hr2, by omega, rfl, by rw [if_pos HC1.out, if_pos (by omega)]; exact ⟨_, rfl⟩⟩
        · rw [if_neg hc2] at hpp
          subst hpp
          go_wp2_with fail
          go_returns
          refine ⟨HB, ?_⟩
          rw [HN.out]
          exact ⟨hr2, by omega, rfl, by rw [if_pos HC1.out, if_neg (by omega)]; rfl⟩
      · have HC1 := Lib.hid hc1
        rw [if_neg hc1] at hpp
        subst hpp
        go_wp2_with fail
        go_returns
        refine ⟨HB, ?_⟩
        rw [HN.out]
        exact ⟨hr2, by omega, rfl, by rw [if_neg HC1.out]; rfl⟩
    · refine (hun _).mono ?_
      rintro e' w' ⟨rfl, rfl⟩
      go_wp2_with (go_at_call 124; refine (hb2i _ _).mono ?_; rintro e' w' ⟨rfl, rfl⟩)
      obtain ⟨v, hv⟩ : ∃ v, v = (if 36028797018963966 <= u then (if u % 2 = 1 then u / 2 / 2 * 2 + 1 else u / 2) else u) := ⟨_, rfl⟩
      have hor : bits BinOp.or IntKind.u64 (↑u / 2 ^ min (decide (36028797018963966 <= (u : Int))).toNat 64) (bits BinOp.and IntKind.u64 (↑u) 1) = (v : Int) := by
        rw [if_neg hbig] at hv
        rw [decide_eq_false (by omega), show min false.toNat 64 = 0 from by decide, bits_and1_u64 u (by omega), show ((u : Int) / 2 ^ 0) = (u : Int) from by omega]
        rcases Nat.mod_two_eq_zero_or_one u with h0 | h0
        · rw [h0, bits_or_u64 _ _ (by omega) (by omega), Nat.or_zero, hv]
        · rw [h0, show ((1 : Nat) : Int) = 1 from rfl, bits_or1_u64 _ (by omega), hv]; omega
      rw [hor]
      have hv2 : v < 36028797018963969 := by rw [hv]; split <;> (try split) <;> omega
      have HV := Lib.hid hv
      clear hv hor
      refine (round_any v _ (by omega)).mono ?_
      rintro e' w' ⟨rfl, rfl⟩
      go_wp2_with fail
      obtain ⟨r, hr'⟩ : ∃ r, r = (v + 1 + v / 4 % 2) / 4 := ⟨_, rfl⟩
      have hrc : ((↑v + 1 + ↑v / 4 % 2) / 4 : Int) = (r : Int) := by omega
      have hr2 : r <= 9007199254740992 := by omega
      have hm := or_sg neg r (by omega)
      rw [hrc, hm]
      obtain ⟨E, hE⟩ : ∃ E, E = (if 36028797018963966 <= u then e - 1 else e) := ⟨_, rfl⟩
      have hec : wrap64 (-wrap64 (e - ((decide (36028797018963966 <= (u : Int))).toNat : Int))) = -E := by
        rw [hE, if_neg hbig, decide_eq_false (by omega), show ((false.toNat : Nat) : Int) = 0 from rfl, IntWalk.wrap64_in (e - 0) (by omega), IntWalk.wrap64_in (-(e - 0)) (by omega), Int.sub_zero]
      rw [hec]
      have hE2 : -1500 <= E /\ E <= 1074 := by rw [hE]; split <;> omega
      refine (pack64_any neg _ r (-E) _ rfl hr2 (by omega) (by omega)).mono ?_
      have hn : parseN d p = some (r, -E) := by
        unfold parseN
        simp only []
        rw [<- HH.out.1, <- HH.out.2, <- HE.out.1, <- HS.out, if_neg (by omega), <- HU.out.2, Int.toNat_natCast, <- HX.out, <- HU.out.1, <- HV.out, <- hE, <- hr']
      have HN := Lib.hid hn
      clear hn hec hE hr' hrc hm
      rintro e' w' ⟨rfl, hpp⟩
      have HB : Below w.heap.size w ((w.alloc (Obj.cells #[.int .u64 (hiAt p), .int .u64 (loAt p), .int .i64 s] 192)).drewN nd) := ((Below.refl _ _).alloc (Nat.le_refl _) _).trans ⟨rfl, rfl, rfl, Nat.le_refl _, fun _ _ => rfl⟩
      by_cases hc1 : 2 ^ 52 <= r /\ r < 2 ^ 53
      · have HC1 := Lib.hid hc1
        rw [if_pos hc1] at hpp
        by_cases hc2 : 972 <= -E
        · rw [if_pos hc2] at hpp
          obtain ⟨x', rfl⟩ := hpp
          go_wp2_with fail
          go_returns
          refine ⟨HB, ?_⟩
          rw [HN.out]
          exact ⟨hr2, by omega, rfl, by rw [if_pos HC1.out, if_pos (by omega)]; exact ⟨_, rfl⟩⟩
        · rw [if_neg hc2] at hpp
          subst hpp
          go_wp2_with fail
          go_returns
          refine ⟨HB, ?_⟩
          rw [HN.out]
          exact ⟨hr2, by omega, rfl, by rw [if_pos HC1.out, if_neg (by omega)]; rfl⟩
      · have HC1 := Lib.hid hc1
        rw [if_neg hc1] at hpp
        subst hpp
        go_wp2_with fail
        go_returns
        refine ⟨HB, ?_⟩
        rw [HN.out]
        exact ⟨hr2, by omega, rfl, by rw [if_neg HC1.out]; rfl⟩
end Go.Proofs.YtdfolbmoohcblaaGreatDoor
