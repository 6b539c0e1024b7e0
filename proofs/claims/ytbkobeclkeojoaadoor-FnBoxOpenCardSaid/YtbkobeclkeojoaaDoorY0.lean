/- The spec's HSalsa20: what is walked into. Conditions: none. -/
import Derived.Test.YtbkobeclkeojoaaDoorS1
set_option maxRecDepth 1000000
set_option linter.unusedVariables false
namespace Go.Sx
open Go.Proofs
def b4S (x : BitVec 32) : List (BitVec 8) := [(x >>> 0).setWidth 8, (x >>> 8).setWidth 8, (x >>> 16).setWidth 8, (x >>> 24).setWidth 8]
theorem b4S_eq (x : BitVec 32) : b4S x = b4 x := by simp [b4S, b4]
end Go.Sx
