/- spec.bit, spec.power: the states. spec.bit, spec.power, spec.Inv. spec.power, spec.Inv. spec.Step: the states. spec.Step. spec.Inv, spec.Clamped, spec.Bytes, spec.Of. spec.X25519: the states. spec.X25519. spec.X25519: its contract. Conditions: none. -/
import Derived.Test.YtbkobeclkeojoaaDoorR1
set_option maxRecDepth 1000000
set_option linter.unusedVariables false
namespace Go.Sx
open Go.Proofs
end Go.Sx

set_option maxRecDepth 1000000
set_option linter.unusedVariables false
namespace Go.Sx
open Go.Proofs

end Go.Sx

set_option maxRecDepth 1000000
set_option linter.unusedVariables false
namespace Go.Sx
open Go.Proofs

end Go.Sx

set_option maxRecDepth 1000000
set_option linter.unusedVariables false
namespace Go.Sx
open Go.Proofs
end Go.Sx

set_option maxRecDepth 1000000
set_option linter.unusedVariables false
namespace Go.Sx
open Go.Proofs
/-- digits -/
def D (l : List (BitVec 64)) : Prop := ∀ x ∈ l, x.toNat < 65536
def L2 (f : Nat → Nat → Nat) (x y : List (BitVec 64)) : List (BitVec 64) := lit 0 16 (dg (f (val x) (val y)))
/-- the five numbers of a ladder -/
structure W5 where
  x1 : Nat
  x2 : Nat
  z2 : Nat
  x3 : Nat
  z3 : Nat
def W5.swap (w : W5) : W5 := ⟨w.x1, w.x3, w.z3, w.x2, w.z2⟩
def W5.step (w : W5) : W5 :=
  let a := fadd w.x2 w.z2
  let c := fsub w.x2 w.z2
  let aa := fmul a a
  let bb := fmul c c
  let e := fsub aa bb
  let da := fmul (fsub w.x3 w.z3) a
  let cb := fmul (fadd w.x3 w.z3) c
  let x := fadd da cb
  let y := fsub da cb
  ⟨w.x1 % P25, fmul aa bb, fmul e (fadd aa (fmul 121665 e)), fmul x x, fmul w.x1 (fmul y y)⟩
theorem D.take {w : List (BitVec 64)} (h : D w) (n : Nat) : D (w.take n) := fun x hx => h x (List.mem_of_mem_take hx)
theorem D.drop {w : List (BitVec 64)} (h : D w) (n : Nat) : D (w.drop n) := fun x hx => h x (List.mem_of_mem_drop hx)
end Go.Sx

set_option maxRecDepth 1000000
set_option linter.unusedVariables false
namespace Go.Sx
open Go.Proofs
def finv (v : Nat) : Nat := fpow v (P25 - 2)
end Go.Sx

set_option maxRecDepth 1000000
set_option linter.unusedVariables false
namespace Go.Sx
open Go.Proofs
def maskP (p : List (BitVec 8)) : List (BitVec 8) := p.set 31 (p.getD 31 0 &&& 127#8)
end Go.Sx

set_option maxRecDepth 1000000
set_option linter.unusedVariables false
namespace Go.Sx
open Go.Proofs
def W5.ok (w : W5) : Prop := w.x1 < W25 ∧ w.x2 < W25 ∧ w.z2 < W25 ∧ w.x3 < W25 ∧ w.z3 < W25
def W5.stp (w : W5) (b : BitVec 64) : W5 := (bif decide (b.toNat = 1) then w.swap else w).step
/-- the ladder behind j bits, and the bit that was looked at last -/
def ladJ (K : Nat) (w0 : W5) : Nat → W5 × BitVec 64
  | 0 => (w0, 0#64)
  | j + 1 => ((ladJ K w0 j).1.stp (bitN K (254 - j) ^^^ (ladJ K w0 j).2), bitN K (254 - j))
/-- the point's number behind the ladder -/
def xlad (K U : Nat) : Nat :=
  let r := ladJ K ⟨U, 1, 0, U, 1⟩ 255
  bif decide (r.2.toNat = 1) then fmul r.1.x3 (finv r.1.z3) else fmul r.1.x2 (finv r.1.z2)
def x25519 (s p : List (BitVec 8)) : List (BitVec 8) := bytesN 32 (xlad (leN (clampB s)) (leN (maskP p)))
end Go.Sx

set_option maxRecDepth 1000000
set_option linter.unusedVariables false
namespace Go.Sx
open Go.Proofs

end Go.Sx
