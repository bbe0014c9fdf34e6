/-
For FnReadAgain, part 38: W16 W16a W16b.
-/
import Derived.Test.YtdfolbmoohcblaaGreatDoorM35
import Derived.Deep.RegionWith
import Derived.Lib.AppendStr
set_option linter.all false
namespace Go.Proofs.YtdfolbmoohcblaaGreatDoor
set_option maxHeartbeats 4000000
set_option maxRecDepth 100000
open Go.RowKit
structure Fo (w : World) : Prop where
 pow : Pow w
 tab : Lib.TabIs Tryz.prog w "internal/strconv.uint64pow10" .u64 Lib.pow10Tab
theorem Fo.below {w w' : World} (h : Fo w) (hb : Below w.heap.size w w') : Fo w' := by
 exact ⟨h.pow.below hb, Joins.tab_stays (g := 12) (by kernel_rfl) h.tab hb (Nat.le_refl _)⟩
def fmtG (neg : Bool) (d : Nat) (p : Int) : List UInt8 :=
 let S := Lib.decDigits d
 let nd := nzd S
 let dp := (Lib.nDigits d : Int) + p
 if dp - 1 < -4 \/ 6 <= dp - 1 then fmtE neg S nd dp else fmtF neg S nd dp
def FtPost (W0 : World) (B : Nat) (L r : List UInt8) (e : Ending) (w' : World) : Prop :=
 ∃ g c, e = .returned (.slice (some ⟨g, 0, none⟩) (L ++ r).length c) /\ w'.ownsRow B 5 1 (.slice (some ⟨g, 0, none⟩) (L ++ r).length c) (L ++ r).length (cel (L ++ r)) /\ Below B W0 w'
theorem efg_ft {W0 : World} {B sb : Nat} {S L r : List UInt8} {e : Ending} {w' : World} (h : EfgPost W0 B sb S L r e w') : FtPost W0 B L r e w' := by
 obtain ⟨g, c, h1, h2⟩ := h
 exact ⟨g, c, h1, h2.own, h2.below⟩
theorem dropW_nil (p : UInt8 -> Bool) : ∀ l : List UInt8, l.dropWhile p = [] -> ∀ c ∈ l, p c = true
 | [], _, c, hc => by cases hc
 | a :: l, h, c, hc => by
  rw [List.dropWhile_cons] at h
  split at h
  ·rename_i ha
   rcases List.mem_cons.1 hc with rfl | hc
   ·exact ha
   ·exact dropW_nil p l h c hc
  ·cases h
theorem dig_nz : ∀ d : Nat, 1 <= d -> ∃ c ∈ Lib.decDigits d, c ≠ 48 := by
 intro d
 induction d using Nat.strongRecOn with
 | _ d ih =>
  intro hd
  rw [Lib.decDigits]
  by_cases h : d < 10
  ·rw [dif_pos h]
   refine ⟨_, List.mem_singleton.2 rfl, ?_⟩
   intro he
   have := congrArg UInt8.toNat he
   simp at this
   omega
  ·rw [dif_neg h]
   obtain ⟨c, hc, hn⟩ := ih (d / 10) (by omega) (by omega)
   exact ⟨c, List.mem_append_left _ hc, hn⟩
theorem nzd_pos {d : Nat} (hd : 1 <= d) : 1 <= nzd (Lib.decDigits d) := by
 rcases Nat.eq_zero_or_pos (nzd (Lib.decDigits d)) with h | h
 ·exfalso
  obtain ⟨c, hc, hn⟩ := dig_nz d hd
  unfold nzd at h
  have h2 := dropW_nil _ _ (List.length_eq_zero_iff.1 h) c (List.mem_reverse.2 hc)
  exact hn (by simpa using h2)
 ·exact h
theorem fmtG_any (W0 : World) (B : Nat) (v : Value) (neg : Bool) (sb d : Nat) (p : Int) (L : List UInt8) (w : World) (hd1 : 1 <= d) (hd2 : d < 18446744073709551616) (hp1 : -900 <= p) (hp2 : p <= 900)
  (hL : L.length <= 1000) (hB : B <= w.heap.size) (h : DS W0 B sb (Lib.decDigits d) w v L) :
  Calls Tryz.prog 95 #[v, .bool neg, .slice (some ⟨sb, 0, none⟩) 32 32, .int .i64 (Lib.nDigits d + p), .int .i64 (nzd (Lib.decDigits d)), .int .i64 (nzd (Lib.decDigits d)), .int .u8 103, .bool true] w (FtPost W0 B L (fmtG neg d p)) := by
 have hn1 := Lib.nDigits_pos d
 have hn2 := Lib.nDigits_le20 d hd2
 have hn3 := nzd_le (Lib.decDigits d)
 have hn4 := nzd_pos hd1
 have hl := Lib.decDigits_length d
 unfold fmtG
 simp only []
 by_cases hc : (Lib.nDigits d : Int) + p - 1 < -4 \/ 6 <= (Lib.nDigits d : Int) + p - 1
 ·rw [if_pos hc]
  exact (fmtEFG_e W0 B v neg sb (nzd (Lib.decDigits d)) _ _ L w hn4 (by omega) hn3 (by omega) (by omega) hc hL hB h).mono fun e w' => efg_ft
 ·rw [if_neg hc]
  exact (fmtEFG_f W0 B v neg sb (nzd (Lib.decDigits d)) _ _ L w hn4 (by omega) hn3 (by omega) (by omega) hL hB h).mono fun e w' => efg_ft
theorem zeros_at {w : World} {b t : Nat} {cs : Array Value} (h : w.heap[b]? = some (.cells cs t (0, 0))) (hc : cs = Array.replicate 32 (.int .u8 0)) : Sort.Holds bcell w b 0 (Array.replicate 32 0) := by
 subst hc
 intro j hj
 rw [Array.size_replicate] at hj
 rw [getElem!_pos _ j (by rw [Array.size_replicate]; omega), Array.getElem_replicate]
 constructor
 ·unfold World.cell?
  rw [h]
  simp [hj]; rfl
 ·simp [World.frozen?, h]
structure FtIn (W0 : World) (B : Nat) (L : List UInt8) (v : Value) (w : World) : Prop where
 own : w.ownsRow B 5 1 v L.length (cel L)
 below : Below B W0 w
 hB : B <= w.heap.size
 len : L.length <= 1000
 fo : Fo w
theorem ftoa64_norm (W0 : World) (v : Value) (L : List UInt8) (B X E M d : Nat) (p : Int) (neg : Bool) (w : World) (hX : X < 18446744073709551616) (hE : X / 4503599627370496 % 2048 = E) (hM : X % 4503599627370496 = M) (hneg : ((X : Int) / 9223372036854775808 != 0) = neg) (h1 : 1 <= E) (h2 : E < 2047) (hs : shortN ((M + 4503599627370496) * 2048) ((E : Int) - 1086) = (d, p)) (hin : FtIn W0 B L v w) :
  Calls Tryz.prog 84 #[v, .float .f64 X, .int .u8 103, .int .i64 (-1)] w (FtPost W0 B L (fmtG neg d p)) := by
 obtain ⟨Q, hQ⟩ : ∃ Q, FtPost W0 B L (fmtG neg d p) = Q := ⟨_, rfl⟩
 rw [hQ]
 have H := Lib.hid (And.intro hin (And.intro hQ hs))
 clear hin hQ hs
 have hfb := fun n => run_tobits n
 have hx1 : bits .and .i64 ((X : Int) / 4503599627370496) 2047 = (E : Int) := by
  rw [show ((X : Int) / 4503599627370496) = ((X / 4503599627370496 : Nat) : Int) from by omega, fld_exp _ (by omega), hE]
 have hx2 : bits .and .u64 (X : Int) 4503599627370495 = (M : Int) := by rw [fld_mant X hX, hM]
 have hMb : M < 4503599627370496 := by omega
 have hx3 := fld_or M hMb
 go_enter Tryz.func84, Tryz.ntmps84
 go_wp2_with fail
 go_quiet (fail)
 go_wp2_with fail
 have hb : blen (M + 4503599627370496) = 53 := by
  have k1 := blen_lt (M + 4503599627370496)
  have k2 := blen_le (M + 4503599627370496) (by omega)
  have k3 : ¬ blen (M + 4503599627370496) <= 52 := fun h => by
   have : 2 ^ blen (M + 4503599627370496) <= 2 ^ 52 := Nat.pow_le_pow_right (by decide) h
   omega
  have k4 : ¬ 54 <= blen (M + 4503599627370496) := fun h => by
   have : 2 ^ 53 <= 2 ^ (blen (M + 4503599627370496) - 1) := Nat.pow_le_pow_right (by decide) (by omega)
   omega
  omega
 refine (Len64_any (M + 4503599627370496) _ (by omega)).mono ?_
 rintro e w1 ⟨rfl, hw1⟩
 rw [hb]
 have HW := Lib.hid hw1
 clear hw1
 go_wp2_with fail
 have hbw : Below w.heap.size w w1 := by
  rw [<- HW.out]
  have hd : Below w.heap.size w (w.drewN nq) := ⟨rfl, rfl, rfl, Nat.le_refl _, fun _ _ => rfl⟩
  exact hd.alloc (Nat.le_refl _) _
 obtain ⟨cs, hcs, hze⟩ : ∃ cs, w1.heap[w.heap.size]? = some (.cells cs 168 (0, 0)) /\ cs = Array.replicate 32 (.int .u8 0) := by
  rw [<- HW.out]
  exact ⟨_, heap_alloc_new (w.drewN nq) _, rfl⟩
 have hlt1 : w.heap.size < w1.heap.size := lt_of_heap hcs
 have HW1 : Hid (Fo w1) := H.out.1.fo.below hbw
 have hz : zOf ((E : Int) - 1086) = 11 := by unfold zOf; omega
 have hsf := shortFloat_any ((M + 4503599627370496) * 2048) ((E : Int) - 1086) w1 (HW1.out.pow) (by omega) (by omega) (by rw [hz]; omega) (by omega) (by omega)
 have hbd := shortN_bd ((M + 4503599627370496) * 2048) ((E : Int) - 1086) (by omega) (by omega) (by rw [hz]; omega) (by omega) (by omega)
 rw [show ((M : Int) + 4503599627370496) * 2048 = (((M + 4503599627370496) * 2048 : Nat) : Int) from by omega, show (E : Int) + -1023 - 11 - 52 = (E : Int) - 1086 from by omega]
 rw [H.out.2.2] at hbd
 unfold ShortPost at hsf
 rw [H.out.2.2] at hsf
 refine hsf.mono ?_
 rintro e w2 ⟨hb2, rfl⟩
 obtain ⟨hd1, hd2, hp1, hp2⟩ := hbd
 dsimp only at hd1 hd2 hp1 hp2
 have HW2 : Hid (Below w.heap.size w w2 /\ Sort.Holds bcell w2 w.heap.size 0 (Array.replicate 32 0)) :=
  ⟨hbw.trans (hb2.mono hbw.size), zeros_at (by rw [hb2.block _ hlt1]; exact hcs) hze⟩
 clear hbw hb2 hcs hze hlt1 HW HW1 hsf hx1 hx2 hx3 hb hz
 go_wp2_with fail
 go_region_with (first
  | (go_at_call 99; refine (Tryz.internal_strconv_numDigits d hd1 (by omega) _ ?_).mono ?_; exact (H.out.1.fo.below (HW2.out.1.drew)).tab; rintro e w' ⟨rfl, rfl⟩)
  | (go_at_call 98; refine (setDigits_any w.heap.size d p _ hd1 (by omega) (by omega) (by omega) ?_).mono ?_; exact HW2.out.2; rintro e w3 ⟨rfl, hat, hby⟩))
 have HS : Hid (Below w.heap.size w w3 /\ Bytes w3 w.heap.size (Lib.decDigits d) /\ w.heap.size < w3.heap.size) :=
  ⟨(HW2.out.1.drew).trans hat.1, hby, Nat.lt_of_lt_of_le (World.block_lt_of_cell? _ _ (HW2.out.2 0 (by decide)).1) hat.1.size⟩
 clear hat hby
 go_wp2_with fail
 refine (fmtG_any W0 B v neg w.heap.size d p L w3 hd1 (by omega) (by omega) (by omega) H.out.1.len (Nat.le_trans H.out.1.hB HS.out.1.size) ⟨Row.below H.out.1.own HS.out.1, ?_, HS.out.2.2, HS.out.2.1, H.out.1.below.trans (HS.out.1.mono H.out.1.hB)⟩).mono ?_
 ·intro he
  exact absurd (H.out.1.own.lt _ he).2 (Nat.lt_irrefl _)
 rw [H.out.2.1]
 intro e w4 hq
 have HQ := Lib.hid hq
 obtain ⟨g, c, he, -, -⟩ := (by rw [<- H.out.2.1] at hq; exact hq : FtPost W0 B L (fmtG neg d p) e w4)
 subst he
 clear hq
 go_wp2_with fail
 have hfin := HQ.out
 rw [List.length_append] at hfin
 exact hfin
theorem ftoa64_den (W0 : World) (v : Value) (L : List UInt8) (B X M d : Nat) (p : Int) (neg : Bool) (w : World) (hX : X < 18446744073709551616) (hE : X / 4503599627370496 % 2048 = 0) (hM : X % 4503599627370496 = M) (hneg : ((X : Int) / 9223372036854775808 != 0) = neg) (h1 : 1 <= M) (hs : shortN (M * 2 ^ (64 - blen M)) (-1074 - (64 - (blen M : Int))) = (d, p)) (hin : FtIn W0 B L v w) :
  Calls Tryz.prog 84 #[v, .float .f64 X, .int .u8 103, .int .i64 (-1)] w (FtPost W0 B L (fmtG neg d p)) := by
 obtain ⟨Q, hQ⟩ : ∃ Q, FtPost W0 B L (fmtG neg d p) = Q := ⟨_, rfl⟩
 rw [hQ]
 have H := Lib.hid (And.intro hin (And.intro hQ hs))
 clear hin hQ hs
 have hfb := fun n => run_tobits n
 have hx1 : bits .and .i64 ((X : Int) / 4503599627370496) 2047 = (0 : Int) := by
  rw [show ((X : Int) / 4503599627370496) = ((X / 4503599627370496 : Nat) : Int) from by omega, fld_exp _ (by omega), hE]; rfl
 have hx2 : bits .and .u64 (X : Int) 4503599627370495 = (M : Int) := by rw [fld_mant X hX, hM]
 have hMb : M < 4503599627370496 := by omega
 go_enter Tryz.func84, Tryz.ntmps84
 go_wp2_with fail
 go_quiet (fail)
 go_wp2_with fail
 have hb1 := blen_pos M (by omega)
 have hb2 : blen M <= 52 := by
  rcases Nat.lt_or_ge 52 (blen M) with h | h
  ·exfalso
   have k2 := blen_le M (by omega)
   have : 2 ^ 52 <= 2 ^ (blen M - 1) := Nat.pow_le_pow_right (by decide) (by omega)
   omega
  ·exact h
 obtain ⟨x1, x2⟩ := norm_x M (by omega) (by omega)
 refine (Len64_any M _ (by omega)).mono ?_
 rintro e w1 ⟨rfl, hw1⟩
 obtain ⟨s, hsb⟩ : ∃ s, 64 - blen M = s := ⟨_, rfl⟩
 have hss : (64 : Int) - (blen M : Int) = (s : Int) := by omega
 have hwr : IntKind.u64.wrap ((M : Int) * 2 ^ s) = ((M * 2 ^ s : Nat) : Int) := by
  rw [show (M : Int) * 2 ^ s = ((M * 2 ^ s : Nat) : Int) from by rw [Int.natCast_mul, Int.natCast_pow]; rfl]
  rw [hsb] at x2
  exact IntWalk.u64_in _ (by constructor <;> omega)
 have HW := Lib.hid hw1
 clear hw1
 go_wp2_with fail
 have hbw : Below w.heap.size w w1 := by
  rw [<- HW.out]
  have hd : Below w.heap.size w (w.drewN nq) := ⟨rfl, rfl, rfl, Nat.le_refl _, fun _ _ => rfl⟩
  exact hd.alloc (Nat.le_refl _) _
 obtain ⟨cs, hcs, hze⟩ : ∃ cs, w1.heap[w.heap.size]? = some (.cells cs 168 (0, 0)) /\ cs = Array.replicate 32 (.int .u8 0) := by
  rw [<- HW.out]
  exact ⟨_, heap_alloc_new (w.drewN nq) _, rfl⟩
 have hlt1 : w.heap.size < w1.heap.size := lt_of_heap hcs
 have HW1 : Hid (Fo w1) := H.out.1.fo.below hbw
 have hz : zOf (-1074 - (64 - (blen M : Int))) = 64 - blen M := by unfold zOf; omega
 have hmz : M * 2 ^ (64 - blen M) % 2 ^ zOf (-1074 - (64 - (blen M : Int))) = 0 := by rw [hz]; exact Nat.mul_mod_left _ _
 have hsf := shortFloat_any (M * 2 ^ (64 - blen M)) (-1074 - (64 - (blen M : Int))) w1 (HW1.out.pow) x1 x2 hmz (by omega) (by omega)
 have hbd := shortN_bd (M * 2 ^ (64 - blen M)) (-1074 - (64 - (blen M : Int))) x1 x2 hmz (by omega) (by omega)
 rw [show (M : Int) * 2 ^ s = ((M * 2 ^ s : Nat) : Int) from by rw [Int.natCast_mul, Int.natCast_pow]; rfl, show (-1022 : Int) - (s : Int) - 52 = -1074 - (s : Int) from by omega]
 rw [H.out.2.2] at hbd
 unfold ShortPost at hsf
 rw [H.out.2.2] at hsf
 rw [hsb, hss] at hsf
 refine hsf.mono ?_
 rintro e w2 ⟨hb2, rfl⟩
 obtain ⟨hd1, hd2, hp1, hp2⟩ := hbd
 dsimp only at hd1 hd2 hp1 hp2
 have HW2 : Hid (Below w.heap.size w w2 /\ Sort.Holds bcell w2 w.heap.size 0 (Array.replicate 32 0)) :=
  ⟨hbw.trans (hb2.mono hbw.size), zeros_at (by rw [hb2.block _ hlt1]; exact hcs) hze⟩
 clear hbw hb2 hcs hze hlt1 HW HW1 hsf hx1 hx2 hb1 hz hmz x1 x2 hsb hss hwr
 go_wp2_with fail
 go_region_with (first
  | (go_at_call 99; refine (Tryz.internal_strconv_numDigits d hd1 (by omega) _ ?_).mono ?_; exact (H.out.1.fo.below (HW2.out.1.drew)).tab; rintro e w' ⟨rfl, rfl⟩)
  | (go_at_call 98; refine (setDigits_any w.heap.size d p _ hd1 (by omega) (by omega) (by omega) ?_).mono ?_; exact HW2.out.2; rintro e w3 ⟨rfl, hat, hby⟩))
 have HS : Hid (Below w.heap.size w w3 /\ Bytes w3 w.heap.size (Lib.decDigits d) /\ w.heap.size < w3.heap.size) :=
  ⟨(HW2.out.1.drew).trans hat.1, hby, Nat.lt_of_lt_of_le (World.block_lt_of_cell? _ _ (HW2.out.2 0 (by decide)).1) hat.1.size⟩
 clear hat hby
 go_wp2_with fail
 refine (fmtG_any W0 B v neg w.heap.size d p L w3 hd1 (by omega) (by omega) (by omega) H.out.1.len (Nat.le_trans H.out.1.hB HS.out.1.size) ⟨Row.below H.out.1.own HS.out.1, ?_, HS.out.2.2, HS.out.2.1, H.out.1.below.trans (HS.out.1.mono H.out.1.hB)⟩).mono ?_
 ·intro he
  exact absurd (H.out.1.own.lt _ he).2 (Nat.lt_irrefl _)
 rw [H.out.2.1]
 intro e w4 hq
 have HQ := Lib.hid hq
 obtain ⟨g, c, he, -, -⟩ := (by rw [<- H.out.2.1] at hq; exact hq : FtPost W0 B L (fmtG neg d p) e w4)
 subst he
 clear hq
 go_wp2_with fail
 have hfin := HQ.out
 rw [List.length_append] at hfin
 exact hfin
theorem ds_nil {W0 : World} {v : Value} {L : List UInt8} {B : Nat} {w : World} (h : FtIn W0 B L v w) (h16 : 16 <= B) (n : Nat) : DS W0 B 15 [] (w.drewN n) v L := by
 have h15 := (h.fo.pow 0 (by decide) (by decide)).1
 refine ⟨Row.below h.own ⟨rfl, rfl, rfl, Nat.le_refl _, fun _ _ => rfl⟩, ?_, World.block_lt_of_cell? _ _ h15, fun i c hi => (by simp at hi), h.below.trans ⟨rfl, rfl, rfl, Nat.le_refl _, fun _ _ => rfl⟩⟩
 intro he
 have := ownBlock_old h.own 15 he
 omega
theorem str_cells (s : ByteArray) : Lib.strCells s = cel (ls s) := by
 unfold Lib.strCells cel ls; rfl
theorem ft_str {ops : Array Oper} {rest : List Oper} {o : Oper} {a : Act} {Q : Exit -> Act -> World -> Prop} (hgd : o.guard = none) (sl x : Operand)
  (ho : o.op = .call { callee := .builtin .append, args := #[sl, x], argTypes := #[66, 9] })
  {W0 : World} {B : Nat} {w : World} {v : Value} {L : List UInt8} (hown : w.ownsRow B 5 1 v L.length (cel L)) (hb : Below B W0 w) (hB : B <= w.heap.size) (hL : L.length <= 1000) (hs : a.eval sl = v)
  (s : ByteArray) (hx : a.eval x = .string s) (h0 : 0 < s.size) (h9 : s.size <= 1000)
  (K : ∀ g c w', w'.ownsRow B 5 1 (.slice (some ⟨g, 0, none⟩) (L ++ ls s).length c) (L ++ ls s).length (cel (L ++ ls s)) -> Below B W0 w' -> wpList Tryz.prog ops Q rest (a.put o.dst (.slice (some ⟨g, 0, none⟩) (L ++ ls s).length c)) w') : wpList Tryz.prog ops Q (o :: rest) a w := by
 obtain ⟨i0, hi, hz0, hz1, hz2⟩ := info_parts info5
 refine Lib.wpList_append_own_string w hgd sl x 66 9 ho B 5 i0 Tryz.underlying66 Tryz.underlying9 hi hz0 hz1 hz2 v L.length (cel L) hs hown s hx (by unfold maxLen; omega) (by omega) hB ?_
 intro v' w' h1 h2 _
 have hl : (L ++ ls s).length = L.length + s.size := by rw [List.length_append, ls_length]
 rw [str_cells, <- cel_append] at h1
 obtain ⟨g, c, rfl, -, -⟩ := h1.form (by omega)
 rw [<- hl] at h1 ⊢
 refine K g c w' h1 (hb.trans ⟨h2.os, h2.tape, h2.output, h2.size, fun k hk => h2.block k (by omega) (fun e => ?_)⟩)
 have := ownBlock_old hown k e.symm
 omega
theorem ftoa64_infn (W0 : World) (v : Value) (L : List UInt8) (B X : Nat) (w : World) (hX : X < 18446744073709551616) (hE : X / 4503599627370496 % 2048 = 2047) (hM : X % 4503599627370496 = 0) (hneg : ((X : Int) / 9223372036854775808 != 0) = true) (hin : FtIn W0 B L v w) :
  Calls Tryz.prog 84 #[v, .float .f64 X, .int .u8 103, .int .i64 (-1)] w (FtPost W0 B L [45, 73, 110, 102]) := by
 obtain ⟨Q, hQ⟩ : ∃ Q, FtPost W0 B L [45, 73, 110, 102] = Q := ⟨_, rfl⟩
 rw [hQ]
 have H := Lib.hid (And.intro hin hQ)
 clear hin hQ
 have hfb := fun n => run_tobits n
 have hx1 : bits .and .i64 ((X : Int) / 4503599627370496) 2047 = (2047 : Int) := by
  rw [show ((X : Int) / 4503599627370496) = ((X / 4503599627370496 : Nat) : Int) from by omega, fld_exp _ (by omega), hE]; rfl
 have hx2 : bits .and .u64 (X : Int) 4503599627370495 = (0 : Int) := by rw [fld_mant X hX, hM]; rfl
 go_enter Tryz.func84, Tryz.ntmps84
 go_wp2_with fail
 go_quiet (fail)
 go_wp2_with (at_builtin; refine ft_str (W0 := W0) (B := B) (L := L) rfl _ _ rfl (Row.below H.out.1.own ⟨rfl, rfl, rfl, Nat.le_refl _, fun _ _ => rfl⟩) (H.out.1.below.trans ⟨rfl, rfl, rfl, Nat.le_refl _, fun _ _ => rfl⟩) H.out.1.hB H.out.1.len rfl { data := #[45, 73, 110, 102] } rfl (by decide) (by decide) ?_)
 intro g c w1 ho1 hb1
 have HQ := Lib.hid (And.intro ho1 hb1)
 clear ho1 hb1
 go_wp2_with fail
 rw [<- H.out.2]
 have hfin : FtPost W0 B L [45, 73, 110, 102] (.returned (.slice (some ⟨g, 0, none⟩) (L ++ [45, 73, 110, 102]).length c)) w1 := ⟨g, c, rfl, (by have ho := HQ.out.1; rw [<- List.length_append] at ho; exact ho), HQ.out.2⟩
 rw [List.length_append] at hfin
 exact hfin
theorem ftoa64_infp (W0 : World) (v : Value) (L : List UInt8) (B X : Nat) (w : World) (hX : X < 18446744073709551616) (hE : X / 4503599627370496 % 2048 = 2047) (hM : X % 4503599627370496 = 0) (hneg : ((X : Int) / 9223372036854775808 != 0) = false) (hin : FtIn W0 B L v w) :
  Calls Tryz.prog 84 #[v, .float .f64 X, .int .u8 103, .int .i64 (-1)] w (FtPost W0 B L [43, 73, 110, 102]) := by
 obtain ⟨Q, hQ⟩ : ∃ Q, FtPost W0 B L [43, 73, 110, 102] = Q := ⟨_, rfl⟩
 rw [hQ]
 have H := Lib.hid (And.intro hin hQ)
 clear hin hQ
 have hfb := fun n => run_tobits n
 have hx1 : bits .and .i64 ((X : Int) / 4503599627370496) 2047 = (2047 : Int) := by
  rw [show ((X : Int) / 4503599627370496) = ((X / 4503599627370496 : Nat) : Int) from by omega, fld_exp _ (by omega), hE]; rfl
 have hx2 : bits .and .u64 (X : Int) 4503599627370495 = (0 : Int) := by rw [fld_mant X hX, hM]; rfl
 go_enter Tryz.func84, Tryz.ntmps84
 go_wp2_with fail
 go_quiet (fail)
 go_wp2_with (at_builtin; refine ft_str (W0 := W0) (B := B) (L := L) rfl _ _ rfl (Row.below H.out.1.own ⟨rfl, rfl, rfl, Nat.le_refl _, fun _ _ => rfl⟩) (H.out.1.below.trans ⟨rfl, rfl, rfl, Nat.le_refl _, fun _ _ => rfl⟩) H.out.1.hB H.out.1.len rfl { data := #[43, 73, 110, 102] } rfl (by decide) (by decide) ?_)
 intro g c w1 ho1 hb1
 have HQ := Lib.hid (And.intro ho1 hb1)
 clear ho1 hb1
 go_wp2_with fail
 rw [<- H.out.2]
 have hfin : FtPost W0 B L [43, 73, 110, 102] (.returned (.slice (some ⟨g, 0, none⟩) (L ++ [43, 73, 110, 102]).length c)) w1 := ⟨g, c, rfl, (by have ho := HQ.out.1; rw [<- List.length_append] at ho; exact ho), HQ.out.2⟩
 rw [List.length_append] at hfin
 exact hfin
theorem ftoa64_nan (W0 : World) (v : Value) (L : List UInt8) (B X M : Nat) (w : World) (hX : X < 18446744073709551616) (hE : X / 4503599627370496 % 2048 = 2047) (hM : X % 4503599627370496 = M) (h1 : 1 <= M) (hin : FtIn W0 B L v w) :
  Calls Tryz.prog 84 #[v, .float .f64 X, .int .u8 103, .int .i64 (-1)] w (FtPost W0 B L [78, 97, 78]) := by
 obtain ⟨Q, hQ⟩ : ∃ Q, FtPost W0 B L [78, 97, 78] = Q := ⟨_, rfl⟩
 rw [hQ]
 have H := Lib.hid (And.intro hin hQ)
 clear hin hQ
 have hfb := fun n => run_tobits n
 have hx1 : bits .and .i64 ((X : Int) / 4503599627370496) 2047 = (2047 : Int) := by
  rw [show ((X : Int) / 4503599627370496) = ((X / 4503599627370496 : Nat) : Int) from by omega, fld_exp _ (by omega), hE]; rfl
 have hx2 : bits .and .u64 (X : Int) 4503599627370495 = (M : Int) := by rw [fld_mant X hX, hM]
 go_enter Tryz.func84, Tryz.ntmps84
 go_wp2_with fail
 go_quiet (fail)
 go_wp2_with (at_builtin; refine ft_str (W0 := W0) (B := B) (L := L) rfl _ _ rfl (Row.below H.out.1.own ⟨rfl, rfl, rfl, Nat.le_refl _, fun _ _ => rfl⟩) (H.out.1.below.trans ⟨rfl, rfl, rfl, Nat.le_refl _, fun _ _ => rfl⟩) H.out.1.hB H.out.1.len rfl { data := #[78, 97, 78] } rfl (by decide) (by decide) ?_)
 intro g c w1 ho1 hb1
 have HQ := Lib.hid (And.intro ho1 hb1)
 clear ho1 hb1
 go_wp2_with fail
 rw [<- H.out.2]
 have hfin : FtPost W0 B L [78, 97, 78] (.returned (.slice (some ⟨g, 0, none⟩) (L ++ [78, 97, 78]).length c)) w1 := ⟨g, c, rfl, (by have ho := HQ.out.1; rw [<- List.length_append] at ho; exact ho), HQ.out.2⟩
 rw [List.length_append] at hfin
 exact hfin
theorem ftoa64_zeron (W0 : World) (v : Value) (L : List UInt8) (B X : Nat) (w : World) (hX : X < 18446744073709551616) (hE : X / 4503599627370496 % 2048 = 0) (hM : X % 4503599627370496 = 0) (hneg : ((X : Int) / 9223372036854775808 != 0) = true) (hin : FtIn W0 B L v w) (h16 : 16 <= B) :
  Calls Tryz.prog 84 #[v, .float .f64 X, .int .u8 103, .int .i64 (-1)] w (FtPost W0 B L [45, 48]) := by
 obtain ⟨Q, hQ⟩ : ∃ Q, FtPost W0 B L [45, 48] = Q := ⟨_, rfl⟩
 rw [hQ]
 have H := Lib.hid (And.intro hin hQ)
 clear hin hQ
 have hfb := fun n => run_tobits n
 have hx1 : bits .and .i64 ((X : Int) / 4503599627370496) 2047 = (0 : Int) := by
  rw [show ((X : Int) / 4503599627370496) = ((X / 4503599627370496 : Nat) : Int) from by omega, fld_exp _ (by omega), hE]; rfl
 have hx2 : bits .and .u64 (X : Int) 4503599627370495 = (0 : Int) := by rw [fld_mant X hX, hM]; rfl
 go_enter Tryz.func84, Tryz.ntmps84
 go_wp2_with fail
 go_quiet (fail)
 go_wp2_with fail
 refine (fmtEFG_0n W0 B v 15 [] L _ H.out.1.len (show B <= (w.drewN nq).heap.size from H.out.1.hB) (ds_nil H.out.1 h16 nq)).mono ?_
 intro e w4 hq
 have hq2 := efg_ft hq
 clear hq
 have HQ := Lib.hid hq2
 obtain ⟨g, c, he, -, -⟩ := hq2
 subst he
 go_wp2_with fail
 rw [<- H.out.2]
 have hfin := HQ.out
 rw [List.length_append] at hfin
 exact hfin
theorem ftoa64_zerop (W0 : World) (v : Value) (L : List UInt8) (B X : Nat) (w : World) (hX : X < 18446744073709551616) (hE : X / 4503599627370496 % 2048 = 0) (hM : X % 4503599627370496 = 0) (hneg : ((X : Int) / 9223372036854775808 != 0) = false) (hin : FtIn W0 B L v w) (h16 : 16 <= B) :
  Calls Tryz.prog 84 #[v, .float .f64 X, .int .u8 103, .int .i64 (-1)] w (FtPost W0 B L [48]) := by
 obtain ⟨Q, hQ⟩ : ∃ Q, FtPost W0 B L [48] = Q := ⟨_, rfl⟩
 rw [hQ]
 have H := Lib.hid (And.intro hin hQ)
 clear hin hQ
 have hfb := fun n => run_tobits n
 have hx1 : bits .and .i64 ((X : Int) / 4503599627370496) 2047 = (0 : Int) := by
  rw [show ((X : Int) / 4503599627370496) = ((X / 4503599627370496 : Nat) : Int) from by omega, fld_exp _ (by omega), hE]; rfl
 have hx2 : bits .and .u64 (X : Int) 4503599627370495 = (0 : Int) := by rw [fld_mant X hX, hM]; rfl
 go_enter Tryz.func84, Tryz.ntmps84
 go_wp2_with fail
 go_quiet (fail)
 go_wp2_with fail
 refine (fmtEFG_0p W0 B v 15 [] L _ H.out.1.len (show B <= (w.drewN nq).heap.size from H.out.1.hB) (ds_nil H.out.1 h16 nq)).mono ?_
 intro e w4 hq
 have hq2 := efg_ft hq
 clear hq
 have HQ := Lib.hid hq2
 obtain ⟨g, c, he, -, -⟩ := hq2
 subst he
 go_wp2_with fail
 rw [<- H.out.2]
 have hfin := HQ.out
 rw [List.length_append] at hfin
 exact hfin
def fmtT (X : Nat) : List UInt8 :=
 let E := X / 4503599627370496 % 2048
 let M := X % 4503599627370496
 let neg := ((X : Int) / 9223372036854775808 != 0)
 if E = 2047 then (if M = 0 then (if neg then [45, 73, 110, 102] else [43, 73, 110, 102]) else [78, 97, 78])
 else if E = 0 then (if M = 0 then (if neg then [45, 48] else [48]) else fmtG neg (shortN (M * 2 ^ (64 - blen M)) (-1074 - (64 - (blen M : Int)))).1 (shortN (M * 2 ^ (64 - blen M)) (-1074 - (64 - (blen M : Int)))).2)
 else fmtG neg (shortN ((M + 4503599627370496) * 2048) ((E : Int) - 1086)).1 (shortN ((M + 4503599627370496) * 2048) ((E : Int) - 1086)).2
theorem ftoa64_any (W0 : World) (v : Value) (L : List UInt8) (B X : Nat) (w : World) (hX : X < 18446744073709551616) (h16 : 16 <= B) (hin : FtIn W0 B L v w) :
  Calls Tryz.prog 84 #[v, .float .f64 X, .int .u8 103, .int .i64 (-1)] w (FtPost W0 B L (fmtT X)) := by
 unfold fmtT
 obtain ⟨E, hE⟩ : ∃ E, X / 4503599627370496 % 2048 = E := ⟨_, rfl⟩
 obtain ⟨M, hM⟩ : ∃ M, X % 4503599627370496 = M := ⟨_, rfl⟩
 obtain ⟨neg, hneg⟩ : ∃ neg, ((X : Int) / 9223372036854775808 != 0) = neg := ⟨_, rfl⟩
 simp only [hE, hM, hneg]
 by_cases h1 : E = 2047
 ·rw [if_pos h1]
  subst h1
  by_cases h2 : M = 0
  ·rw [if_pos h2]
   subst h2
   cases neg
   ·exact ftoa64_infp W0 v L B X w hX hE hM hneg hin
   ·exact ftoa64_infn W0 v L B X w hX hE hM hneg hin
  ·rw [if_neg h2]
   exact ftoa64_nan W0 v L B X M w hX hE hM (by omega) hin
 ·rw [if_neg h1]
  by_cases h0 : E = 0
  ·rw [if_pos h0]
   subst h0
   by_cases h2 : M = 0
   ·rw [if_pos h2]
    subst h2
    cases neg
    ·exact ftoa64_zerop W0 v L B X w hX hE hM hneg hin h16
    ·exact ftoa64_zeron W0 v L B X w hX hE hM hneg hin h16
   ·rw [if_neg h2]
    obtain ⟨⟨d, p⟩, hdp⟩ : ∃ r, shortN (M * 2 ^ (64 - blen M)) (-1074 - (64 - (blen M : Int))) = r := ⟨_, rfl⟩
    rw [hdp]
    exact ftoa64_den W0 v L B X M d p neg w hX hE hM hneg (by omega) hdp hin
  ·rw [if_neg h0]
   obtain ⟨⟨d, p⟩, hdp⟩ : ∃ r, shortN ((M + 4503599627370496) * 2048) ((E : Int) - 1086) = r := ⟨_, rfl⟩
   rw [hdp]
   exact ftoa64_norm W0 v L B X E M d p neg w hX hE hM hneg (by omega) (by omega) hdp hin
theorem own_bytes {w : World} {B g c : Nat} {xs : List UInt8} (h : w.ownsRow B 5 1 (.slice (some ⟨g, 0, none⟩) xs.length c) xs.length (cel xs)) : Bytes w g xs := by
 intro i c hi
 refine Row.cell h i ?_
 unfold cel
 rw [List.getElem?_map, hi]; rfl
def NumPost (r : List UInt8) (w : World) (e : Ending) (w' : World) : Prop := e = .returned (.string (bs r)) /\ Below w.heap.size w w'
theorem iFormatFloat_any (X : Nat) (w : World) (hX : X < 18446744073709551616) (hfo : Fo w) :
  Calls Tryz.prog 74 #[.float .f64 X, .int .u8 103, .int .i64 (-1), .int .i64 64] w (NumPost (fmtT X) w) := by
 obtain ⟨i0, hi, hz0, hz1, hz2⟩ := info_parts info5
 have h15 := World.block_lt_of_cell? _ _ (hfo.pow 0 (by decide) (by decide)).1
 have h15 : 15 < w.heap.size := h15
 have H := Lib.hid (And.intro hfo h15)
 clear hfo h15
 go_enter Tryz.func74, Tryz.ntmps74
 go_wp2_with (at_make; refine wpList_make_own _ rfl _ _ 66 rfl w.heap.size 5 i0 (.int .u8 0) 1 Tryz.underlying66 hi hz0 hz1 _ _ _ 24 rfl rfl (by decide) (by rw [hz2]; decide) (by unfold maxLen; omega) (Nat.le_refl _) ?_)
 intro w1 ho1 hg1
 have hb1 : Below w.heap.size w w1 := ⟨hg1.os, hg1.tape, hg1.output, hg1.size, fun k hk => hg1.block k hk (by simp)⟩
 have HW1 := Lib.hid (And.intro ho1 hb1)
 clear ho1 hg1 hb1
 go_wp2_with fail
 refine (ftoa64_any w _ [] w.heap.size X w1 hX H.out.2 ⟨HW1.out.1, HW1.out.2, HW1.out.2.size, by simp, H.out.1.below HW1.out.2⟩).mono ?_
 intro e w2 hq
 obtain ⟨g, c, he, ho2, hb2⟩ := hq
 subst he
 rw [List.nil_append] at ho2
 have hconv := (own_bytes ho2).run c _ rfl
 have HB := Lib.hid hb2
 clear hb2 ho2
 go_wp2_with fail
 go_returns
 exact ⟨rfl, HB.out⟩
theorem FormatFloat_any (X : Nat) (w : World) (hX : X < 18446744073709551616) (hfo : Fo w) :
  Calls Tryz.prog 63 #[.float .f64 X, .int .u8 103, .int .i64 (-1), .int .i64 64] w (NumPost (fmtT X) w) := by
 have H := Lib.hid (iFormatFloat_any X w hX hfo)
 clear hfo
 go_enter Tryz.func63, Tryz.ntmps63
 go_wp2_with fail
 refine H.out.mono ?_
 rintro e w1 ⟨rfl, hb⟩
 have HB := Lib.hid hb
 clear hb
 go_wp2_with fail
 go_returns
 exact ⟨rfl, HB.out⟩
theorem number_any (X : Nat) (w : World) (hX : X < 18446744073709551616) (hfo : Fo w) :
  Calls Tryz.prog 34 #[.float .f64 X] w (NumPost (fmtT X) w) := by
 have H := Lib.hid (FormatFloat_any X w hX hfo)
 clear hfo
 go_enter Tryz.func34, Tryz.ntmps34
 go_wp2_with fail
 refine H.out.mono ?_
 rintro e w1 ⟨rfl, hb⟩
 have HB := Lib.hid hb
 clear hb
 go_wp2_with fail
 go_returns
 exact ⟨rfl, HB.out⟩
theorem expo_len (x : Int) : (expo x).length <= 4 := by
 unfold expo
 rw [List.length_cons]
 simp only []
 split
 ·simp
 ·split <;> simp
theorem fmtE_len (neg : Bool) (S : List UInt8) (nd : Nat) (dp : Int) : (fmtE neg S nd dp).length <= S.length + 10 := by
 unfold fmtE sgnB
 have := expo_len (dp - 1)
 simp only [List.length_append]
 have h1 : (S.take 1).length <= 1 := by rw [List.length_take]; omega
 have h2 : (if neg then [(45 : UInt8)] else []).length <= 1 := by split <;> simp
 have h3 : (if 1 < nd then (46 : UInt8) :: (S.take nd).drop 1 else []).length <= S.length + 1 := by
  split
  ·rw [List.length_cons, List.length_drop, List.length_take]; omega
  ·simp
 simp only [List.length_singleton]
 omega
theorem fmtF_len (neg : Bool) (S : List UInt8) (nd : Nat) (dp : Int) (h : -400 <= dp) (h2 : dp <= 400) : (fmtF neg S nd dp).length <= 2 * S.length + 900 := by
 unfold fmtF sgnB
 simp only [List.length_append]
 have h2 : (if neg then [(45 : UInt8)] else []).length <= 1 := by split <;> simp
 have h3 : (if 0 < dp then S.take (min nd dp.toNat) ++ List.replicate (dp.toNat - nd) (48 : UInt8) else [48]).length <= S.length + 401 := by
  split
  ·rw [List.length_append, List.length_take, List.length_replicate]; omega
  ·simp
 have h4 : (if dp < nd then (46 : UInt8) :: (List.replicate (-dp).toNat 48 ++ (S.take nd).drop dp.toNat) else []).length <= S.length + 401 := by
  split
  ·rw [List.length_cons, List.length_append, List.length_replicate, List.length_drop, List.length_take]; omega
  ·simp
 omega
theorem fmtG_len (neg : Bool) (d : Nat) (p : Int) (hd : d < 18446744073709551616) (_h1 : -360 <= p) (_h2 : p <= 360) : (fmtG neg d p).length <= 1000 := by
 have hn2 := Lib.nDigits_le20 d hd
 have hl := Lib.decDigits_length d
 unfold fmtG
 simp only []
 split
 ·have := fmtE_len neg (Lib.decDigits d) (nzd (Lib.decDigits d)) ((Lib.nDigits d : Int) + p)
  omega
 ·have := fmtF_len neg (Lib.decDigits d) (nzd (Lib.decDigits d)) ((Lib.nDigits d : Int) + p) (by omega) (by omega)
  omega
theorem den_facts (M : Nat) (h1 : 1 <= M) (h2 : M < 4503599627370496) : 1 <= blen M /\ blen M <= 52 /\ 9223372036854775808 <= M * 2 ^ (64 - blen M) /\ M * 2 ^ (64 - blen M) < 18446744073709551616 /\ zOf (-1074 - (64 - (blen M : Int))) = 64 - blen M := by
 have hb1 := blen_pos M (by omega)
 have hb2 : blen M <= 52 := by
  rcases Nat.lt_or_ge 52 (blen M) with h | h
  ·exfalso
   have k2 := blen_le M (by omega)
   have : 2 ^ 52 <= 2 ^ (blen M - 1) := Nat.pow_le_pow_right (by decide) (by omega)
   omega
  ·exact h
 obtain ⟨x1, x2⟩ := norm_x M (by omega) (by omega)
 exact ⟨hb1, hb2, x1, x2, by unfold zOf; omega⟩
theorem fmtT_len (X : Nat) : (fmtT X).length <= 1000 := by
 unfold fmtT
 simp only []
 split
 ·repeat' split
  all_goals simp
 ·split
  ·split
   ·split <;> simp
   ·rename_i h1
    obtain ⟨b1, b2, x1, x2, hz⟩ := den_facts (X % 4503599627370496) (by omega) (by omega)
    have hbd := shortN_bd (X % 4503599627370496 * 2 ^ (64 - blen (X % 4503599627370496))) (-1074 - (64 - (blen (X % 4503599627370496) : Int))) x1 x2 (by rw [hz]; exact Nat.mul_mod_left _ _) (by omega) (by omega)
    exact fmtG_len _ _ _ (by omega) (by omega) (by omega)
  ·rename_i h1 h2
   have hz : zOf ((X / 4503599627370496 % 2048 : Nat) - 1086 : Int) = 11 := by unfold zOf; omega
   have hbd := shortN_bd ((X % 4503599627370496 + 4503599627370496) * 2048) ((X / 4503599627370496 % 2048 : Nat) - 1086 : Int) (by omega) (by omega) (by rw [hz]; omega) (by omega) (by omega)
   exact fmtG_len _ _ _ (by omega) (by omega) (by omega)
end Go.Proofs.YtdfolbmoohcblaaGreatDoor
