/- The statement of laws.FnEscapeTest, from the lifted proof. Conditions: those of the row. -/
import Derived.Test.YtbkimfhlgpgoiaaGreatDoorFnLifted
import Derived.Test.YtbkimfhlgpgoiaaGreatDoorFnFacts
namespace Go.Proofs.YtbkimfhlgpgoiaaGreatDoor
open Go.ChangeShapes Go.WideShapes Go.ChangeAt Go.RowKit Go.Lib Go.Shelf
open Go.ChangeMaps (open_string shut_string)
open Go.Proofs.YtbkimfhlgpgoiaaGreatDoor.Hand
set_option linter.unusedVariables false
set_option linter.unusedSimpArgs false

theorem fnEscapeTest_said : Rows.FnEscapeTestSaid :=
  OpenClaim.holds_of_wide 4 Tryz.f4 rfl rfl rfl rfl rfl rfl rfl ⟨rfl, rfl, rfl, rfl, rfl⟩ rfl rfl rfl rfl rfl (by kernel_rfl) Tryz.func4 fnEscapeTest_closed
    (of_decide_eq_true (by kernel_rfl)) (by unfold Func.isWrapper; first | (rw [if_pos (by decide +kernel)]; kernel_rfl) | (rw [if_neg (by decide +kernel)]; exact ⟨rfl, rfl⟩))
    (fun os started H enc _ => lifted os started H enc)

end Go.Proofs.YtbkimfhlgpgoiaaGreatDoor
