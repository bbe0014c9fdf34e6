/-
For FnReadAgain, part 49: C1.
-/
import Derived.Test.YtdfolbmoohcblaaGreatDoorM48
import Derived.Test.YtdfolbmoohcblaaGreatDoorM03
import Derived.Test.YtdfolbmoohcblaaGreatDoorM05
import Derived.Test.YtdfolbmoohcblaaGreatDoorM07
import Derived.Test.YtdfolbmoohcblaaGreatDoorM19
import Derived.Shelf.Strconv.Itoa1
set_option linter.all false
namespace Go.Proofs.YtdfolbmoohcblaaGreatDoor
open Go Go.ChangeShapes Go.WideShapes Go.RowKit Go.Lib
theorem laid_met {W : World} (h : laidMetH Tryz.prog Rows.fnReadAgainRow.laid W) : laidMet Tryz.prog Rows.fnReadAgainRow.laid W := by
 rw [MakeChecks.laidMetH_plain _ _ _ (by kernel_rfl)] at h
 exact h
theorem bas_u16 : Bas 133 := .inr (.inl ⟨.u16, Tryz.underlying133⟩)
theorem bas_u64 : Bas 127 := .inr (.inl ⟨.u64, Tryz.underlying127⟩)
theorem bas_uint : Bas 136 := .inr (.inl ⟨.u64, Tryz.underlying136⟩)
theorem bas_int : Bas 3 := .inr (.inl ⟨.i64, Tryz.underlying3⟩)
theorem bas_bool : Bas 4 := .inl Tryz.underlying4
theorem bas_f64 : Bas 36 := .inr (.inr (.inl ⟨.f64, Tryz.underlying36⟩))
theorem bas_str : Bas 9 := .inr (.inr (.inr Tryz.underlying9))
theorem c133 : Tryz.prog.cellsOf 133 = 1 := by kernel_rfl
theorem c127 : Tryz.prog.cellsOf 127 = 1 := by kernel_rfl
theorem c136 : Tryz.prog.cellsOf 136 = 1 := by kernel_rfl
theorem c3 : Tryz.prog.cellsOf 3 = 1 := by kernel_rfl
theorem c36 : Tryz.prog.cellsOf 36 = 1 := by kernel_rfl
theorem c9 : Tryz.prog.cellsOf 9 = 1 := by kernel_rfl
theorem pair138 : Pair 138 := ⟨⟨_, _, Tryz.underlying138, rfl, rfl, c133, c133, bas_u16, bas_u16⟩, by kernel_rfl⟩
theorem pair234 : Pair 234 := ⟨⟨_, _, Tryz.underlying234, rfl, rfl, c127, c127, bas_u64, bas_u64⟩, by kernel_rfl⟩
theorem pair240 : Pair 240 := ⟨⟨_, _, Tryz.underlying240, rfl, rfl, c3, c9, bas_int, bas_str⟩, by kernel_rfl⟩
def unPair : DataW Unit -> Int × Int
 | .agg [.lit (.int _ a), .lit (.int _ b)] => (a, b)
 | _ => (0, 0)
def orbRows : List (Int × Int) := match (Rows.laid_unicode_caseOrbit : DataW Unit) with
 | .slice l _ => l.map unPair
 | _ => []
theorem orb_len : orbRows.length = 94 := by kernel_rfl
theorem orb_ne : orbRows ≠ [] := by
 intro h0
 have := orb_len
 rw [h0] at this
 cases this
theorem cheat_all : (List.range 61).all (fun k => k == 0 || Pinned.cheatRows[k]? == some (cutD k, cutT k)) = true := by decide +kernel
section
variable {W : World} (h : laidMet Tryz.prog Rows.fnReadAgainRow.laid W)
 include h
theorem at_fold : ∀ i : Nat, i < 128 -> W.cell? ⟨3, i, none⟩ = some (.int .u16 (afold i)) := by
 obtain ⟨cs, fuel, p, -, hc, hd⟩ := var_at h (n := "unicode.asciiFold") (List.mem_of_getElem? (i := 12) rfl) (g := 3) (t := 134) (by kernel_rfl) (by kernel_rfl)
 have e : (Rows.laid_unicode_asciiFold : DataW Unit) = tabData .u16 ((List.range 128).map fun i => ((afold i : Nat) : Int)) := by kernel_rfl
 rw [e] at hd
 have hcs := cells_of_tab Tryz.underlying134 Tryz.underlying133 c133 (by kernel_rfl) hd
 intro i hi
 rw [hc i, hcs]
 simp [hi]
theorem at_orbit : ∃ b o c, 94 <= c /\ W.cell? ⟨4, 0, none⟩ = some (.slice (some ⟨b, o, none⟩) 94 c) /\ W.cell? ⟨b, o + 94, none⟩ = some (.int .u16 966) /\ W.cell? ⟨b, o + 46, none⟩ = some (.int .u16 837) /\
  W.cell? ⟨b, o + 22, none⟩ = some (.int .u16 452) /\ W.cell? ⟨b, o + 10, none⟩ = some (.int .u16 197) /\ W.cell? ⟨b, o + 16, none⟩ = some (.int .u16 304) /\ W.cell? ⟨b, o + 20, none⟩ = some (.int .u16 383) /\
  W.cell? ⟨b, o + 18, none⟩ = some (.int .u16 305) /\ W.cell? ⟨b, o + 21, none⟩ = some (.int .u16 83) := by
 obtain ⟨cs, fuel, p, -, hc, hd⟩ := var_at h (n := "unicode.caseOrbit") (List.mem_of_getElem? (i := 13) rfl) (g := 4) (t := 135) (by kernel_rfl) (by kernel_rfl)
 have e : (Rows.laid_unicode_caseOrbit : DataW Unit) = .slice (orbRows.map fun r => .agg [.lit (.int .u16 r.1), .lit (.int .u16 r.2)]) [] := by kernel_rfl
 rw [e] at hd
 obtain ⟨b, o, c, hcs, hl, hrow⟩ := slice_pairs Tryz.underlying135 pair138 orb_ne hd
 have hlen := orb_len
 rw [hlen] at hcs hl
 have k : ∀ i x y, orbRows[i]? = some (x, y) -> W.cell? ⟨b, o + i * 2, none⟩ = some (.int .u16 x) /\ W.cell? ⟨b, o + i * 2 + 1, none⟩ = some (.int .u16 y) := fun i x y hi => hrow i (x, y) hi
 refine ⟨b, o, c, hl, by rw [hc 0, hcs]; rfl, ?_, ?_, ?_, ?_, ?_, ?_, ?_, ?_⟩
 ·exact (k 47 966 (orbRows.getD 47 (0, 0)).2 (by kernel_rfl)).1
 ·exact (k 23 837 (orbRows.getD 23 (0, 0)).2 (by kernel_rfl)).1
 ·exact (k 11 452 (orbRows.getD 11 (0, 0)).2 (by kernel_rfl)).1
 ·exact (k 5 197 (orbRows.getD 5 (0, 0)).2 (by kernel_rfl)).1
 ·exact (k 8 304 (orbRows.getD 8 (0, 0)).2 (by kernel_rfl)).1
 ·exact (k 10 383 (orbRows.getD 10 (0, 0)).2 (by kernel_rfl)).1
 ·exact (k 9 305 (orbRows.getD 9 (0, 0)).2 (by kernel_rfl)).1
 ·exact (k 10 (orbRows.getD 10 (0, 0)).1 83 (by kernel_rfl)).2
theorem at_opt : W.cell? ⟨9, 0, none⟩ = some (.bool true) := by
 obtain ⟨cs, fuel, p, -, hc, hd⟩ := var_at h (n := "internal/strconv.optimize") (List.mem_of_getElem? (i := 4) rfl) (g := 9) (t := 4) (by kernel_rfl) (by kernel_rfl)
 rw [hc 0, lit_cell bas_bool hd]; rfl
theorem at_info : W.cell? ⟨14, 0, none⟩ = some (.int .u64 52) /\ W.cell? ⟨14, 1, none⟩ = some (.int .u64 11) /\ W.cell? ⟨14, 2, none⟩ = some (.int .i64 (-1023)) := by
 obtain ⟨cs, fuel, p, -, hc, hd⟩ := var_at h (n := "internal/strconv.float64info") (List.mem_of_getElem? (i := 3) rfl) (g := 14) (t := 213) (by kernel_rfl) (by kernel_rfl)
 obtain ⟨⟨y0, q0⟩, ⟨y1, q1⟩, ⟨y2, q2⟩, n, hx, hl, h0, h1, h2⟩ := Deep.trod_struct3 Tryz.underlying213 hd
 unfold Rows.laid_internal_strconv_float64info at hx
 simp only [Prod.mk.injEq, DataW.agg.injEq, List.cons.injEq, and_true] at hx
 obtain ⟨⟨rfl, rfl, rfl⟩, -⟩ := hx
 have e0 := lit_cell bas_uint h0
 have e1 := lit_cell bas_uint h1
 have e2 := lit_cell bas_int h2
 dsimp only at e0 e1 e2
 rw [c136] at e0 e1
 rw [c3] at e2
 have k0 := congrArg (·[0]?) e0
 have k1 := congrArg (·[0]?) e1
 have k2 := congrArg (·[0]?) e2
 simp [List.getElem?_drop, litV] at k0 k1 k2
 refine ⟨?_, ?_, ?_⟩
 ·rw [hc 0]; simpa using k0
 ·rw [hc 1]; simpa using k1
 ·rw [hc 2]; simpa using k2
theorem at_pows : ∃ g o c, W.cell? ⟨19, 0, none⟩ = some (.slice (some ⟨g, o, none⟩) 23 c) /\ ∀ i, i < 23 -> W.cell? ⟨g, o + i, none⟩ = some (.float .f64 (p10 i)) := by
 obtain ⟨cs, fuel, p, -, hc, hd⟩ := var_at h (n := "internal/strconv.float64pow10") (List.mem_of_getElem? (i := 6) rfl) (g := 19) (t := 247) (by kernel_rfl) (by kernel_rfl)
 have e : (Rows.laid_internal_strconv_float64pow10 : DataW Unit) = .slice ((List.range 23).map fun i => .lit (.float .f64 (p10 i))) [] := by kernel_rfl
 rw [e] at hd
 obtain ⟨b, o, c, hcs, hl, hrow⟩ := slice_lits Tryz.underlying247 bas_f64 c36 (by intro h0; have := congrArg List.length h0; simp at this) hd
 rw [List.length_range] at hcs hl
 exact ⟨b, o, c, by rw [hc 0, hcs]; rfl, fun i hi => hrow i i (by simp [hi])⟩
theorem at_tab : ∃ g o c, W.cell? ⟨18, 0, none⟩ = some (.slice (some ⟨g, o, none⟩) 9 c) /\ ∀ i, i < 9 -> W.cell? ⟨g, o + i, none⟩ = some (.int .i64 (([1, 3, 6, 9, 13, 16, 19, 23, 26] : List Nat).getD i 0 : Nat)) := by
 obtain ⟨cs, fuel, p, -, hc, hd⟩ := var_at h (n := "internal/strconv.powtab") (List.mem_of_getElem? (i := 5) rfl) (g := 18) (t := 126) (by kernel_rfl) (by kernel_rfl)
 have e : (Rows.laid_internal_strconv_powtab : DataW Unit) = .slice ((List.range 9).map fun i => .lit (.int .i64 (([1, 3, 6, 9, 13, 16, 19, 23, 26] : List Nat).getD i 0 : Nat))) [] := by kernel_rfl
 rw [e] at hd
 obtain ⟨b, o, c, hcs, hl, hrow⟩ := slice_lits Tryz.underlying126 bas_int c3 (by intro h0; have := congrArg List.length h0; simp at this) hd
 rw [List.length_range] at hcs hl
 exact ⟨b, o, c, by rw [hc 0, hcs]; rfl, fun i hi => hrow i i (by simp [hi])⟩
theorem at_cheat : ∃ g o c, W.cell? ⟨16, 0, none⟩ = some (.slice (some ⟨g, o, none⟩) 61 c) /\ ∀ k, 1 <= k -> k <= 60 -> W.cell? ⟨g, o + k * 2, none⟩ = some (.int .i64 (cutD k : Nat)) /\ W.cell? ⟨g, o + k * 2 + 1, none⟩ = some (.string (bs (cutT k))) := by
 obtain ⟨cs, fuel, p, -, hc, hd⟩ := var_at h (n := "internal/strconv.leftcheats") (List.mem_of_getElem? (i := 17) rfl) (g := 16) (t := 241) (by kernel_rfl) (by kernel_rfl)
 have hlen : Pinned.cheatRows.length = 61 := by kernel_rfl
 have e : Rows.laid_internal_strconv_leftcheats = .slice (Pinned.cheatRows.map fun x => .agg [.lit (.int .i64 (x.1 : Nat)), .lit (.string x.2)]) [] := rfl
 rw [e] at hd
 obtain ⟨b, o, c, hcs, hl, hrow⟩ := slice_pairs Tryz.underlying241 pair240 (by intro h0; rw [h0] at hlen; cases hlen) hd
 rw [hlen] at hcs hl
 refine ⟨b, o, c, by rw [hc 0, hcs]; rfl, fun k h1 h2 => ?_⟩
 have hk := List.all_eq_true.1 cheat_all k (List.mem_range.2 (by omega))
 rw [Bool.or_eq_true] at hk
 rcases hk with hk | hk
 ·have : k = 0 := by simpa using hk
  omega
 ·exact hrow k _ (by simpa using hk)
theorem at_pow : Pow W := by
 obtain ⟨cs, fuel, p, -, hc, hd⟩ := var_at h (n := "internal/strconv.pow10Tab") (List.mem_of_getElem? (i := 18) rfl) (g := 15) (t := 235) (by kernel_rfl) (by kernel_rfl)
 have hlen : Pinned.pow10Rows.length = 696 := by kernel_rfl
 have e : Rows.laid_internal_strconv_pow10Tab = .agg (Pinned.pow10Rows.map fun x => .agg [.lit (.int .u64 (x.1 : Nat)), .lit (.int .u64 (x.2 : Nat))]) := rfl
 rw [e] at hd
 have hrow := arr_pairs Tryz.underlying235 pair234 hd
 intro p h1 h2
 obtain ⟨i, hi⟩ : ∃ i, (p + 348).toNat = i := ⟨_, rfl⟩
 have hi2 : i < 696 := by omega
 obtain ⟨r, hr⟩ : ∃ r, Pinned.pow10Rows[i]? = some r := ⟨_, List.getElem?_eq_getElem (by rw [hlen]; exact hi2)⟩
 obtain ⟨k0, k1⟩ := hrow i r hr
 have eh : hiAt p = r.1 := by unfold hiAt; rw [hi, List.getD_eq_getElem?_getD, hr]; rfl
 have el : loAt p = r.2 := by unfold loAt; rw [hi, List.getD_eq_getElem?_getD, hr]; rfl
 rw [hi, hc, hc, k0, k1, eh, el]
 exact ⟨rfl, rfl⟩
theorem at_u64 : TabIs Tryz.prog W "internal/strconv.uint64pow10" .u64 Lib.pow10Tab := by
 obtain ⟨cs, fuel, p, hv, -, hd⟩ := var_at h (n := "internal/strconv.uint64pow10") (List.mem_of_getElem? (i := 8) rfl) (g := 12) (t := 201) (by kernel_rfl) (by kernel_rfl)
 have e : (Rows.laid_internal_strconv_uint64pow10 : DataW Unit) = tabData .u64 Lib.pow10Tab := by kernel_rfl
 rw [e] at hd
 have hcs := cells_of_tab Tryz.underlying201 Tryz.underlying127 c127 (by kernel_rfl) hd
 unfold TabIs
 rw [hv, <- hcs]
theorem at_err (n : String) (g : Nat) (nm : String) (d : DataW Unit) (hm : (n, DataW.iface nm d) ∈ Rows.fnReadAgainRow.laid) (hg : Tryz.prog.globalNamed n = some g) (hty : (Tryz.prog.globals[g]?).map (·.type) = some 41) : ∃ t v, W.cell? ⟨g, 0, none⟩ = some (.iface t v) := by
 obtain ⟨cs, fuel, p, -, hc, hd⟩ := var_at h hm hg hty
 obtain ⟨f', u, v, hcs, -, -⟩ := iface_of_trod Tryz.underlying41 hd
 exact ⟨u, v, by rw [hc 0, hcs]; rfl⟩
end
end Go.Proofs.YtdfolbmoohcblaaGreatDoor
