/- Numbers modulo 2^255 - 19 in digits of sixteen bits: settling. Conditions: none; plain definitions and theorems. spec.P, spec.minus; spec.Less: the states. spec.Less; spec.settle. spec.settle: its contract. Numbers modulo 2^255 - 19 in digits: sums, opposites, products. Conditions: none; plain definitions and theorems. spec.product, spec.Add, spec.Neg, spec.Sub, spec.Mul, spec.Mod. spec.Neg, spec.Sub, spec.Mul. Numbers modulo 2^255 - 19: bits, powers, bytes. Conditions: none; plain definitions and theorems. Conditions: none. -/
import Derived.Test.YtbkobeclkeojoaaDoorQ2
import Derived.Test.YtbkobeclkeojoaaDoorPg
set_option linter.unusedVariables false
namespace Go.Sx

def P25 : Nat := 57896044618658097711785492504343953926634992332820282019728792003956564819949
/-- 2^256 -/
def W25 : Nat := 115792089237316195423570985008687907853269984665640564039457584007913129639936
theorem P25_pos : 0 < P25 := by decide
end Go.Sx

set_option maxRecDepth 1000000
set_option linter.unusedVariables false
namespace Go.Sx
open Go.Proofs

end Go.Sx

set_option maxRecDepth 1000000
set_option linter.unusedVariables false
namespace Go.Sx
open Go.Proofs

end Go.Sx

set_option maxRecDepth 1000000
set_option linter.unusedVariables false
namespace Go.Sx
open Go.Proofs

end Go.Sx

set_option linter.unusedVariables false
namespace Go.Sx

def fadd (a b : Nat) : Nat := (a + b) % P25
def fneg (a : Nat) : Nat := (P25 - a % P25) % P25
def fsub (a b : Nat) : Nat := fadd a (fneg b)
def fmul (a b : Nat) : Nat := a * b % P25
theorem fmul_lt (a b : Nat) : fmul a b < P25 := Nat.mod_lt _ P25_pos
/-- sixteen digits -/
def dg (v : Nat) : List (BitVec 64) := digs 16 v
/-- cells from o on -/
def segN (l : List (BitVec 64)) (o n : Nat) : List (BitVec 64) := (List.range n).map fun j => l.getD (o + j) 0
end Go.Sx

set_option maxRecDepth 1000000
set_option linter.unusedVariables false
namespace Go.Sx
open Go.Proofs

end Go.Sx

set_option maxRecDepth 1000000
set_option linter.unusedVariables false
namespace Go.Sx
open Go.Proofs

end Go.Sx

set_option linter.unusedVariables false
namespace Go.Sx

def bitN (v i : Nat) : BitVec 64 := BitVec.ofNat 64 (v / 2 ^ i % 2)
theorem bitN_nat (v i : Nat) : (bitN v i).toNat = v / 2 ^ i % 2 := by
  unfold bitN
  rw [BitVec.toNat_ofNat, Nat.mod_eq_of_lt]
  have := Nat.mod_lt (v / 2 ^ i) (show 0 < 2 by decide)
  omega

def fpow (a e : Nat) : Nat := a ^ e % P25
/-- a key as X25519 takes it -/
def clampB (k : List (BitVec 8)) : List (BitVec 8) := (k.set 0 (k.getD 0 0 &&& ~~~7#8)).set 31 (k.getD 31 0 &&& 127#8 ||| 64#8)
theorem clampB_length (k : List (BitVec 8)) : (clampB k).length = k.length := by unfold clampB; rw [List.length_set, List.length_set]
end Go.Sx
