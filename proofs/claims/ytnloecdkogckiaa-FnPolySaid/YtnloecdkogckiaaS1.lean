/- Salsa20's words: what is walked into, and the spec's rounds. Conditions: none. -/
import Derived.Test.YtnloecdkogckiaaPg
set_option maxRecDepth 1000000
set_option linter.unusedVariables false
namespace Go.Sx
open Go.Proofs

noncomputable def in25 : In := ⟨Try.f25, bodyOf Try.f25, 0, .read, noOrc⟩
theorem io25 : InOk P0 25 in25 := ⟨by kernel_rfl, by kernel_rfl, by kernel_rfl⟩
noncomputable def HQ0 (c : Bool) : Hook := hookC 25 (inl (cxb c) (H0 c) in25) (H0 c)
theorem HQ0ok (B : Nat) (c : Bool) : HookOk P0 B 1 (HQ0 c) := HookOk.cons (HkOk.inl (cx := cxb c) mix T0ok (H0ok B c) io25) (H0ok B c)
noncomputable def in33 : In := ⟨Try.f33, bodyOf Try.f33, 0, .read, noOrc⟩
theorem io33 : InOk P0 33 in33 := ⟨by kernel_rfl, by kernel_rfl, by kernel_rfl⟩
noncomputable def HQ1 (c : Bool) : Hook := hookC 33 (inl (cxb c) (HQ0 c) in33) (HQ0 c)
theorem HQ1ok (B : Nat) (c : Bool) : HookOk P0 B 1 (HQ1 c) := HookOk.cons (HkOk.inl (cx := cxb c) mix T0ok (HQ0ok B c) io33) (HQ0ok B c)
noncomputable def in15 : In := ⟨Try.f15, bodyOf Try.f15, 0, .read, noOrc⟩
theorem io15 : InOk P0 15 in15 := ⟨by kernel_rfl, by kernel_rfl, by kernel_rfl⟩
noncomputable def HQ2 (c : Bool) : Hook := hookC 15 (inl (cxb c) (HQ1 c) in15) (HQ1 c)
theorem HQ2ok (B : Nat) (c : Bool) : HookOk P0 B 1 (HQ2 c) := HookOk.cons (HkOk.inl (cx := cxb c) mix T0ok (HQ1ok B c) io15) (HQ1ok B c)
noncomputable def in26 : In := ⟨Try.f26, bodyOf Try.f26, 0, .eff, noOrc⟩
theorem io26 : InOk P0 26 in26 := ⟨by kernel_rfl, by kernel_rfl, by kernel_rfl⟩
noncomputable def HQ (c : Bool) : Hook := hookC 26 (inl (cxb c) (HQ2 c) in26) (HQ2 c)
theorem HQok (B : Nat) (c : Bool) : HookOk P0 B 1 (HQ c) := HookOk.cons (HkOk.inl (cx := cxb c) mix T0ok (HQ2ok B c) io26) (HQ2ok B c)
/-- a word turned to the left -/
def rol (x : BitVec 32) (n : Nat) : BitVec 32 := x <<< n ||| x >>> (32 - n)

/-- a double round on sixteen words -/
def dr16 (x0 x1 x2 x3 x4 x5 x6 x7 x8 x9 x10 x11 x12 x13 x14 x15 : BitVec 32) : List (BitVec 32) :=
  let x4 := x4 ^^^ rol (x0 + x12) 7
  let x8 := x8 ^^^ rol (x4 + x0) 9
  let x12 := x12 ^^^ rol (x8 + x4) 13
  let x0 := x0 ^^^ rol (x12 + x8) 18
  let x9 := x9 ^^^ rol (x5 + x1) 7
  let x13 := x13 ^^^ rol (x9 + x5) 9
  let x1 := x1 ^^^ rol (x13 + x9) 13
  let x5 := x5 ^^^ rol (x1 + x13) 18
  let x14 := x14 ^^^ rol (x10 + x6) 7
  let x2 := x2 ^^^ rol (x14 + x10) 9
  let x6 := x6 ^^^ rol (x2 + x14) 13
  let x10 := x10 ^^^ rol (x6 + x2) 18
  let x3 := x3 ^^^ rol (x15 + x11) 7
  let x7 := x7 ^^^ rol (x3 + x15) 9
  let x11 := x11 ^^^ rol (x7 + x3) 13
  let x15 := x15 ^^^ rol (x11 + x7) 18
  let x1 := x1 ^^^ rol (x0 + x3) 7
  let x2 := x2 ^^^ rol (x1 + x0) 9
  let x3 := x3 ^^^ rol (x2 + x1) 13
  let x0 := x0 ^^^ rol (x3 + x2) 18
  let x6 := x6 ^^^ rol (x5 + x4) 7
  let x7 := x7 ^^^ rol (x6 + x5) 9
  let x4 := x4 ^^^ rol (x7 + x6) 13
  let x5 := x5 ^^^ rol (x4 + x7) 18
  let x11 := x11 ^^^ rol (x10 + x9) 7
  let x8 := x8 ^^^ rol (x11 + x10) 9
  let x9 := x9 ^^^ rol (x8 + x11) 13
  let x10 := x10 ^^^ rol (x9 + x8) 18
  let x12 := x12 ^^^ rol (x15 + x14) 7
  let x13 := x13 ^^^ rol (x12 + x15) 9
  let x14 := x14 ^^^ rol (x13 + x12) 13
  let x15 := x15 ^^^ rol (x14 + x13) 18
  [x0, x1, x2, x3, x4, x5, x6, x7, x8, x9, x10, x11, x12, x13, x14, x15]

def w_ (l : List (BitVec 32)) (i : Nat) : BitVec 32 := l.getD i 0
def dr (l : List (BitVec 32)) : List (BitVec 32) :=
  dr16 (w_ l 0) (w_ l 1) (w_ l 2) (w_ l 3) (w_ l 4) (w_ l 5) (w_ l 6) (w_ l 7) (w_ l 8) (w_ l 9) (w_ l 10) (w_ l 11) (w_ l 12) (w_ l 13) (w_ l 14) (w_ l 15)
/-- n double rounds -/
def drs (l : List (BitVec 32)) : Nat → List (BitVec 32)
  | 0 => l
  | n + 1 => dr (drs l n)
theorem drs_length {l : List (BitVec 32)} (h : l.length = 16) : ∀ n, (drs l n).length = 16
  | 0 => h
  | n + 1 => rfl

/-- the words of the rounds' body: the inner loops of one double round -/
noncomputable def roundsBody : List Code := flat (bodyOf Try.f16)
end Go.Sx
