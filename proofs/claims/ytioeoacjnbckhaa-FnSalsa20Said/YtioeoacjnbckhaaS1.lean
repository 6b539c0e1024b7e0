/- Salsa20's words: what is walked into, and the spec's rounds. Conditions: none. -/
import Derived.Test.YtioeoacjnbckhaaPg
set_option maxRecDepth 1000000
set_option linter.unusedVariables false
namespace Go.Sx
open Go.Proofs

noncomputable def in63 : In := ⟨Try.f63, bodyOf Try.f63, 0, .read, noOrc⟩
theorem io63 : InOk P0 63 in63 := ⟨by kernel_rfl, by kernel_rfl, by kernel_rfl⟩
noncomputable def HQ0 (c : Bool) : Hook := hookC 63 (inl (cxb c) (H0 c) in63) (H0 c)
theorem HQ0ok (B : Nat) (c : Bool) : HookOk P0 B 2 (HQ0 c) := HookOk.cons (HkOk.inl (cx := cxb c) mix T0ok (H0ok B c) io63) (H0ok B c)
noncomputable def in82 : In := ⟨Try.f82, bodyOf Try.f82, 0, .read, noOrc⟩
theorem io82 : InOk P0 82 in82 := ⟨by kernel_rfl, by kernel_rfl, by kernel_rfl⟩
noncomputable def HQ1 (c : Bool) : Hook := hookC 82 (inl (cxb c) (HQ0 c) in82) (HQ0 c)
theorem HQ1ok (B : Nat) (c : Bool) : HookOk P0 B 2 (HQ1 c) := HookOk.cons (HkOk.inl (cx := cxb c) mix T0ok (HQ0ok B c) io82) (HQ0ok B c)
noncomputable def in41 : In := ⟨Try.f41, bodyOf Try.f41, 0, .read, noOrc⟩
theorem io41 : InOk P0 41 in41 := ⟨by kernel_rfl, by kernel_rfl, by kernel_rfl⟩
noncomputable def HQ2 (c : Bool) : Hook := hookC 41 (inl (cxb c) (HQ1 c) in41) (HQ1 c)
theorem HQ2ok (B : Nat) (c : Bool) : HookOk P0 B 2 (HQ2 c) := HookOk.cons (HkOk.inl (cx := cxb c) mix T0ok (HQ1ok B c) io41) (HQ1ok B c)
noncomputable def in64 : In := ⟨Try.f64, bodyOf Try.f64, 0, .eff, noOrc⟩
theorem io64 : InOk P0 64 in64 := ⟨by kernel_rfl, by kernel_rfl, by kernel_rfl⟩
noncomputable def HQ (c : Bool) : Hook := hookC 64 (inl (cxb c) (HQ2 c) in64) (HQ2 c)
theorem HQok (B : Nat) (c : Bool) : HookOk P0 B 2 (HQ c) := HookOk.cons (HkOk.inl (cx := cxb c) mix T0ok (HQ2ok B c) io64) (HQ2ok B c)
/-- a word turned to the left -/
def rol (x : BitVec 32) (n : Nat) : BitVec 32 := x <<< n ||| x >>> (32 - n)

/-- a double round on sixteen words -/
def dr16 (x0 x1 x2 x3 x4 x5 x6 x7 x8 x9 x10 x11 x12 x13 x14 x15 : BitVec 32) : List (BitVec 32) :=
  let x4 := x4 ^^^ rol (x0 + x12) 7
  let x8 := x8 ^^^ rol (x4 + x0) 9
  let x12 := x12 ^^^ rol (x8 + x4) 13
  let x0 := x0 ^^^ rol (x12 + x8) 18
  let x9 := x9 ^^^ rol (x5 + x1) 7
  let x13 := x13 ^^^ rol (x9 + x5) 9
  let x1 := x1 ^^^ rol (x13 + x9) 13
  let x5 := x5 ^^^ rol (x1 + x13) 18
  let x14 := x14 ^^^ rol (x10 + x6) 7
  let x2 := x2 ^^^ rol (x14 + x10) 9
  let x6 := x6 ^^^ rol (x2 + x14) 13
  let x10 := x10 ^^^ rol (x6 + x2) 18
  let x3 := x3 ^^^ rol (x15 + x11) 7
  let x7 := x7 ^^^ rol (x3 + x15) 9
  let x11 := x11 ^^^ rol (x7 + x3) 13
  let x15 := x15 ^^^ rol (x11 + x7) 18
  let x1 := x1 ^^^ rol (x0 + x3) 7
  let x2 := x2 ^^^ rol (x1 + x0) 9
  let x3 := x3 ^^^ rol (x2 + x1) 13
  let x0 := x0 ^^^ rol (x3 + x2) 18
  let x6 := x6 ^^^ rol (x5 + x4) 7
  let x7 := x7 ^^^ rol (x6 + x5) 9
  let x4 := x4 ^^^ rol (x7 + x6) 13
  let x5 := x5 ^^^ rol (x4 + x7) 18
  let x11 := x11 ^^^ rol (x10 + x9) 7
  let x8 := x8 ^^^ rol (x11 + x10) 9
  let x9 := x9 ^^^ rol (x8 + x11) 13
  let x10 := x10 ^^^ rol (x9 + x8) 18
  let x12 := x12 ^^^ rol (x15 + x14) 7
  let x13 := x13 ^^^ rol (x12 + x15) 9
  let x14 := x14 ^^^ rol (x13 + x12) 13
  let x15 := x15 ^^^ rol (x14 + x13) 18
  [x0, x1, x2, x3, x4, x5, x6, x7, x8, x9, x10, x11, x12, x13, x14, x15]

def w_ (l : List (BitVec 32)) (i : Nat) : BitVec 32 := l.getD i 0
def dr (l : List (BitVec 32)) : List (BitVec 32) :=
  dr16 (w_ l 0) (w_ l 1) (w_ l 2) (w_ l 3) (w_ l 4) (w_ l 5) (w_ l 6) (w_ l 7) (w_ l 8) (w_ l 9) (w_ l 10) (w_ l 11) (w_ l 12) (w_ l 13) (w_ l 14) (w_ l 15)
/-- n double rounds -/
def drs (l : List (BitVec 32)) : Nat → List (BitVec 32)
  | 0 => l
  | n + 1 => dr (drs l n)
theorem drs_length {l : List (BitVec 32)} (h : l.length = 16) : ∀ n, (drs l n).length = 16
  | 0 => h
  | n + 1 => rfl

/-- the words of the rounds' body: the inner loops of one double round -/
noncomputable def roundsBody : List Code := flat (bodyOf Try.f42)
end Go.Sx
