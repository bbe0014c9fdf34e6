/-
For FnReadAgain, part 52: C4.
-/
import Derived.Test.YtdfolbmoohcblaaGreatDoorM51
import Derived.Test.YtdfolbmoohcblaaGreatDoorCards
import Derived.RowKitTokens
import Derived.ChangeMaps5
set_option linter.all false
namespace Go.Proofs.YtdfolbmoohcblaaGreatDoor
set_option maxRecDepth 100000
open Go Go.ChangeShapes Go.WideShapes Go.ChangeAt Go.ChangeMaps Go.RowKit Go.Lib
theorem lifted (os : Os) (started : os.Started) (H : Type) (enc : TypeId × Value -> H) (F : Stop.Interp) :
  ReturnsInHanded {} Tryz.checked os 3 .any ((OpenSpec.ofChange Rows.fnReadAgainSpec).preRow enc Tryz.prog Tryz.f3 Rows.fnReadAgainRow.domain false Rows.fnReadAgainRow.laid) (((OpenSpec.ofChange Rows.fnReadAgainSpec).at F).post enc Tryz.prog Tryz.f3 false true false false) := by
 refine returnsInHanded_of_row (C := Tryz.checked) (s := OpenSpec.ofChange Rows.fnReadAgainSpec) own started (by kernel_rfl) Tryz.func3 (witness os enc) ?_
 intro W base args ds gs before hval hW _ _ _ hL _ _
 exact contract H enc W base args ds gs before hval hW hL
theorem said : Rows.FnReadAgainSaid :=
 OpenClaim.holds_of_cond 3 Tryz.f3 rfl rfl rfl rfl rfl rfl rfl ⟨rfl, rfl, rfl, rfl, rfl⟩ rfl rfl rfl rfl rfl (by kernel_rfl) Tryz.func3 (by kernel_rfl)
  (of_decide_eq_true (by kernel_rfl)) (by unfold Func.isWrapper; first | (rw [if_pos (by decide +kernel)]; kernel_rfl) | (rw [if_neg (by decide +kernel)]; exact ⟨rfl, rfl⟩))
  (fun os started H enc _ F => by rw [OpenClaim.pre_eq_preRow]; exact lifted os started H enc F)
end Go.Proofs.YtdfolbmoohcblaaGreatDoor
