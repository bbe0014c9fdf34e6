/-
For FnReadAgain, part 3: W3.
-/
import Derived.Test.YtdfolbmoohcblaaGreatDoorM02
set_option linter.all false
namespace Go.Proofs.YtdfolbmoohcblaaGreatDoor
set_option maxHeartbeats 2000000
set_option maxRecDepth 100000
open Go.RowKit
def afold (i : Nat) : Nat := if 65 <= i /\ i <= 90 then i + 32 else if i = 107 then 8490 else if i = 115 then 383 else if 97 <= i /\ i <= 122 then i - 32 else i
structure Fold (w : World) : Prop where
 fold : ∀ i : Nat, i < 128 -> w.cell? ⟨3, i, none⟩ = some (.int .u16 (afold i))
 orbit : ∃ b o c, 94 <= c /\ w.cell? ⟨4, 0, none⟩ = some (.slice (some ⟨b, o, none⟩) 94 c) /\ w.cell? ⟨b, o + 94, none⟩ = some (.int .u16 966) /\ w.cell? ⟨b, o + 46, none⟩ = some (.int .u16 837) /\
  w.cell? ⟨b, o + 22, none⟩ = some (.int .u16 452) /\ w.cell? ⟨b, o + 10, none⟩ = some (.int .u16 197) /\ w.cell? ⟨b, o + 16, none⟩ = some (.int .u16 304) /\ w.cell? ⟨b, o + 20, none⟩ = some (.int .u16 383) /\
  w.cell? ⟨b, o + 18, none⟩ = some (.int .u16 305) /\ w.cell? ⟨b, o + 21, none⟩ = some (.int .u16 83)
theorem Fold.below {w w' : World} (h : Fold w) (hb : Below w.heap.size w w') : Fold w' := by
 obtain ⟨h0, b, o, c, hc, h1, h2, h3, h4, h5, h6, h7, h8, h9⟩ := h
 exact ⟨fun i hi => cell_later hb (h0 i hi), b, o, c, hc, cell_later hb h1, cell_later hb h2, cell_later hb h3, cell_later hb h4, cell_later hb h5, cell_later hb h6, cell_later hb h7, cell_later hb h8, cell_later hb h9⟩
theorem SimpleFold_low (i : Nat) (w : World) (hi : i < 128) (hf : Fold w) :
  Calls Tryz.prog 68 #[.int .i32 i] w fun e w' => e = .returned (.int .i32 (afold i)) /\ w = w' := by
 have hc := hf.fold i hi
 have hb : afold i < 65536 := by unfold afold; split <;> (try split) <;> (try split) <;> (try split) <;> omega
 generalize afold i = f at hc hb ⊢
 go_enter Tryz.func68, Tryz.ntmps68
 go_wp2
 go_returns
 exact ⟨rfl, rfl⟩
theorem SimpleFold_383 (w : World) (hf : Fold w) :
  Calls Tryz.prog 68 #[.int .i32 383] w fun e w' => e = .returned (.int .i32 83) /\ w = w' := by
 obtain ⟨b, o, c, hc, h1, h2, h3, h4, h5, h6, h7, h8, h9⟩ := hf.orbit
 clear hf
 go_enter Tryz.func68, Tryz.ntmps68
 go_wp2
 refine wp_loop_rounds 8 ?_
 repeat any_goals (rw [rounds_succ]; go_wp2)
 go_returns
 exact ⟨rfl, rfl⟩
theorem Decode_low (c : UInt8) (r : List UInt8) (w : World) (hc : c.toNat < 128) (hl : r.length <= 100) :
  Calls Tryz.prog 67 #[.string (bs (c :: r))] w fun e w' => e = .returned (.tuple #[.int .i32 c.toNat, .int .i64 1]) /\ w = w' := by
 obtain ⟨s, hs⟩ : ∃ s, bs (c :: r) = s := ⟨_, rfl⟩
 have hz : s.size = r.length + 1 := by rw [<- hs, bs_size]; rfl
 have h0 : 0 < s.size := by omega
 have hv : s[0] = c := by
  have h1 := ls_getElem? s 0 h0
  have h2 : ls s = c :: r := by rw [<- hs, ls_bs]
  rw [h2] at h1; simpa using h1.symm
 have hv2 : ((s[0].toNat : Int)) < 128 := by rw [hv]; omega
 have hb : s.toList.isEmpty = false := by rw [toList_ls, <- hs]; rfl
 rw [hs, <- hv]
 have HS := Lib.hid (And.intro hs (And.intro hz hv))
 clear hs hz hv
 go_enter Tryz.func67, Tryz.ntmps67
 go_wp2
 go_returns
 exact ⟨rfl, rfl⟩
end Go.Proofs.YtdfolbmoohcblaaGreatDoor
