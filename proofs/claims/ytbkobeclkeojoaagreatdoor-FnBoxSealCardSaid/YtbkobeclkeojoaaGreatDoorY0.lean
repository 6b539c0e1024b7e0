/- The spec's HSalsa20: what is walked into. Conditions: none. -/
import Derived.Test.YtbkobeclkeojoaaGreatDoorS1
set_option maxRecDepth 1000000
set_option linter.unusedVariables false
namespace Go.Sx
open Go.Proofs
noncomputable def HR (c : Bool) : Hook := hookC 22 (hookOf (cxb c) roundsCt) (hookC 46 (hookOf (cxb c) hsCt) (HQ c))
theorem HRok (B : Nat) (c : Bool) : HookOk P0 B 2 (HR c) := .cons (.ct (cx := cxb c) (rounds_ok B)) (.cons (.ct (cx := cxb c) (hs_ok B)) (HQok B c))

def b4S (x : BitVec 32) : List (BitVec 8) := [(x >>> 0).setWidth 8, (x >>> 8).setWidth 8, (x >>> 16).setWidth 8, (x >>> 24).setWidth 8]
theorem b4S_eq (x : BitVec 32) : b4S x = b4 x := by simp [b4S, b4]
def hsOutS (x : List (BitVec 32)) : List (BitVec 8) := b4S (w_ x 0) ++ (b4S (w_ x 5) ++ (b4S (w_ x 10) ++ (b4S (w_ x 15) ++ (b4S (w_ x 6) ++ (b4S (w_ x 7) ++ (b4S (w_ x 8) ++ b4S (w_ x 9)))))))
theorem hsOutS_eq (x : List (BitVec 32)) : hsOutS x = hsOut x := by simp [hsOutS, hsOut, b4S_eq]

end Go.Sx
