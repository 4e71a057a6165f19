/- The run of the executor where the first word, trimmed, is empty. Conditions: none. -/
import Derived.Test.YtonagpnnfhilgaaGreatSB
import Derived.Test.YtonagpnnfhilgaaGreatVxF
namespace Vx
open Go Go.Proofs
set_option maxRecDepth 1000000
theorem fastFT : saysTrue (callF (VN false true) 100000 60 3 [.str [.atom 10], .str [.atom 11]] startN) = true := by kernel_rfl
theorem runFT : saysTrue (runN false true) = true := by
  have h := fastFT
  rw [callF_eq] at h
  exact h
end Vx
