/- The run of the executor where both words, trimmed, are empty. Conditions: none. -/
import Derived.Test.YtonagpnnfhilgaaGreatSB
import Derived.Test.YtonagpnnfhilgaaGreatVxF
namespace Vx
open Go Go.Proofs
set_option maxRecDepth 1000000
theorem fastTT : saysTrue (callF (VN true true) 100000 60 3 [.str [.atom 10], .str [.atom 11]] startN) = true := by kernel_rfl
theorem runTT : saysTrue (runN true true) = true := by
  have h := fastTT
  rw [callF_eq] at h
  exact h
end Vx
