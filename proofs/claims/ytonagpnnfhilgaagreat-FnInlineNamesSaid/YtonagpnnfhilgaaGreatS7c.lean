/- The run of the executor where the second word, trimmed, is empty. Conditions: none. -/
import Derived.Test.YtonagpnnfhilgaaGreatSB
import Derived.Test.YtonagpnnfhilgaaGreatVxF
namespace Vx
open Go Go.Proofs
set_option maxRecDepth 1000000
theorem fastTF : saysTrue (callF (VN true false) 100000 60 3 [.str [.atom 10], .str [.atom 11]] startN) = true := by kernel_rfl
theorem runTF : saysTrue (runN true false) = true := by
  have h := fastTF
  rw [callF_eq] at h
  exact h
end Vx
