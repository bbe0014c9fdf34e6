/-
For every string the law FnReadAgain answers true: whatever text impl.Read accepts is written by impl.Write to a text that impl.Read reads to the same shape.
Conditions: those of the given row alone (the listed package variables start as the program lays them, tied by the given tie; no bound on the string beyond the form, so this is the Said card and not the Upto one).
-/
import Derived.Test.YtdfolbmoohcblaaGreatDoorM52
import Derived.Test.YtdfolbmoohcblaaGreatDoorCards
import Derived.RowKitTokens
import Derived.ChangeMaps5
set_option linter.all false
namespace Go.Proofs.YtdfolbmoohcblaaGreatDoor
open Go Go.ChangeShapes Go.WideShapes Go.ChangeAt Go.ChangeMaps Go.RowKit Go.Lib
theorem noStand (f : FuncId) (fn : Func) (hf : Tryz.pinned.checked.prog.funcNamed "loop.example/pub-g01495/laws.FnReadAgain" = some f) (hfn : Tryz.pinned.checked.prog.funcs[f]? = some fn) :
  true = Tryz.pinned.checked.prog.looks [] /\ ∀ (j : Nat) t, fn.params[j]? = some t -> Tryz.pinned.checked.prog.wantsStandIn t = false := by
 obtain rfl : f = 3 := Option.some.inj ((show Tryz.prog.funcNamed "loop.example/pub-g01495/laws.FnReadAgain" = some 3 by kernel_rfl).symm.trans hf) |>.symm
 obtain rfl : fn = Tryz.f3 := (Option.some.inj (Tryz.func3.symm.trans hfn)).symm
 refine ⟨by kernel_rfl, fun j t ht => ?_⟩
 rw [Tryz.params3] at ht
 obtain rfl : t = 9 := by simpa using Array.mem_of_getElem? ht
 exact (show Tryz.prog.wantsStandIn 9 = false by kernel_rfl)
theorem card : Rows.FnReadAgainCardSaid :=
 Claim7.holds_tied_plain_at .later [] _ _ _ _ said (fun _ h => by cases h) (by kernel_rfl) (fun _ h => by cases h) fnReadAgain_row_tie rfl ⟨rfl, rfl⟩ (by kernel_rfl) rfl noStand (by kernel_rfl)
end Go.Proofs.YtdfolbmoohcblaaGreatDoor
