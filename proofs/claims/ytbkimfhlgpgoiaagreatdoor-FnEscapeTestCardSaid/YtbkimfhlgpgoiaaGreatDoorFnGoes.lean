/- One closed fact of the card of laws.FnEscapeTest, by the kernel. Conditions: none. -/
import Derived.Test.YtbkimfhlgpgoiaaGreatDoorRows
import Derived.SevenTiedAt
import Derived.KernelRfl
namespace Go.Proofs.YtbkimfhlgpgoiaaGreatDoor
set_option maxRecDepth 100000
theorem card_goes : false = Rows.fnEscapeTestRow.goesBy Tryz.prog := by kernel_rfl
end Go.Proofs.YtbkimfhlgpgoiaaGreatDoor
