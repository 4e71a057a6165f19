/- The run of the executor where both trimmed words are not empty. Conditions: none. -/
import Derived.Test.YtonagpnnfhilgaaGreatSB
import Derived.Test.YtonagpnnfhilgaaGreatVxF
namespace Vx
open Go Go.Proofs
set_option maxRecDepth 1000000
theorem fastFF : saysTrue (callF (VN false false) 100000 60 3 [.str [.atom 10], .str [.atom 11]] startN) = true := by kernel_rfl
theorem runFF : saysTrue (runN false false) = true := by
  have h := fastFF
  rw [callF_eq] at h
  exact h
end Vx
