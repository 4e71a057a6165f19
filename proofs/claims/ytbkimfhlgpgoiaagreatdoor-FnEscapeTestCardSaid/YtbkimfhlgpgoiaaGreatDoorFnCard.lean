/- The tied card of laws.FnEscapeTest, from the statement and the given tie. Conditions: those of the row. -/
import Derived.Test.YtbkimfhlgpgoiaaGreatDoorFnSaid
import Derived.Test.YtbkimfhlgpgoiaaGreatDoorFnGoes
namespace Go.Proofs.YtbkimfhlgpgoiaaGreatDoor
open Go.ChangeShapes Go.WideShapes Go.ChangeAt Go.RowKit Go.Lib Go.Shelf
open Go.ChangeMaps (open_string shut_string)
open Go.Proofs.YtbkimfhlgpgoiaaGreatDoor.Hand
set_option linter.unusedVariables false
set_option linter.unusedSimpArgs false

theorem card_w : Rows.fnEscapeTestRow.wfByText (OpenSpec.ofChange Rows.fnEscapeTestSpec) = true := by kernel_rfl
theorem card_main : Tryz.prog.mainIs = some ((true, "059efe3e0d3b6c5d48bc1ed5d04f3c1b000a73e5780f9a2c661e58939024274a").1, (true, "059efe3e0d3b6c5d48bc1ed5d04f3c1b000a73e5780f9a2c661e58939024274a").2.toList) := by kernel_rfl
theorem card_named : Tryz.prog.funcNamed "pub-ligature/laws.FnEscapeTest" = some 4 := by kernel_rfl
theorem card_looks : true = Tryz.prog.looks [] := by kernel_rfl
theorem card_stand : ([3, 9, 3].all fun u => !Tryz.prog.wantsStandIn u) = true := by kernel_rfl

/-- The tied card of laws.FnEscapeTest. -/
theorem fnEscapeTest_holds : Rows.FnEscapeTestCardSaid :=
  Claim7.holds_tied_plain_at .later [] [.data, .listed, .pinned, .pinned] true (true, "059efe3e0d3b6c5d48bc1ed5d04f3c1b000a73e5780f9a2c661e58939024274a") true
    fnEscapeTest_said (fun _ h => by cases h) card_w (fun _ h => by cases h) fnEscapeTest_row_tie rfl ⟨rfl, rfl⟩ card_main rfl
    (fun f fn hf hfn => by
      obtain rfl : f = 4 := Option.some.inj (card_named.symm.trans hf) |>.symm
      obtain rfl : fn = Tryz.f4 := (Option.some.inj (Tryz.func4.symm.trans hfn)).symm
      exact ⟨card_looks, fun j t ht => by
        rw [Tryz.params4] at ht
        have hm : t ∈ [3, 9, 3] := by simpa using Array.mem_of_getElem? ht
        exact (show Tryz.prog.wantsStandIn t = false by simpa using List.all_eq_true.1 card_stand t hm)⟩)
    card_goes
end Go.Proofs.YtbkimfhlgpgoiaaGreatDoor
