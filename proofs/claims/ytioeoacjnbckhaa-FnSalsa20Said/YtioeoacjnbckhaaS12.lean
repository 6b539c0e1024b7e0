/- salsa.genericXORKeyStream: states. Conditions: none. -/
import Derived.Test.YtioeoacjnbckhaaS11
set_option maxRecDepth 1000000
set_option linter.unusedVariables false
namespace Go.Sx
open Go.Proofs

noncomputable def in72 : In := ⟨Try.f72, bodyOf Try.f72, 0, .new, noOrc⟩
theorem io72 : InOk P0 72 in72 := ⟨by kernel_rfl, by kernel_rfl, by kernel_rfl⟩
noncomputable def HSg (c : Bool) : Hook := hookC 72 (inl (cxb c) (H0 c) in72) (H0 c)
theorem HSgok (B : Nat) (c : Bool) : HookOk P0 B 2 (HSg c) := HookOk.cons (HkOk.inl (cx := cxb c) mix T0ok (H0ok B c) io72) (H0ok B c)
noncomputable def HG (c : Bool) : Hook := hookC 83 (hookOf (cxb c) scCt) (HSg c)
theorem HGok (B : Nat) (c : Bool) : HookOk P0 B 2 (HG c) := .cons (.ct (cx := cxb c) (sc_ok B)) (HSgok B c)

/-- the block of a counter -/
def bI (C key : List (BitVec 8)) : List (BitVec 8) := lit 0 64 (coreI (mxW (lit 0 16 C) key sigma) 10)
theorem bI_blk (ctr key : List (BitVec 8)) (j : Nat) : bI (cnt ctr j) key = blk ctr key j := by unfold bI blk; rw [coreS_eq]

/-- the counter's carry -/
def incU (c : List (BitVec 8)) : Nat → BitVec 32
  | 0 => 1
  | j + 1 => (incU c j + (c.getD (8 + j) 0).setWidth 32) >>> 8
def inc8 (c : List (BitVec 8)) (j : Nat) : BitVec 8 := (incU c j + (c.getD (8 + j) 0).setWidth 32).setWidth 8
def inc (c : List (BitVec 8)) : List (BitVec 8) := [c.getD 0 0, c.getD 1 0, c.getD 2 0, c.getD 3 0, c.getD 4 0, c.getD 5 0, c.getD 6 0, c.getD 7 0, inc8 c 0, inc8 c 1, inc8 c 2, inc8 c 3, inc8 c 4, inc8 c 5, inc8 c 6, inc8 c 7]

theorem incU_le (c : List (BitVec 8)) : ∀ j, (incU c j).toNat ≤ 1
  | 0 => Nat.le_refl 1
  | j + 1 => by
    have h := incU_le c j
    have := (c.getD (8 + j) 0).isLt
    simp only [incU, BitVec.toNat_ushiftRight, BitVec.toNat_add, BitVec.toNat_setWidth, Nat.shiftRight_eq_div_pow]
    omega
theorem incU_succ (c : List (BitVec 8)) (j : Nat) : (incU c (j + 1)).toNat = ((c.getD (8 + j) 0).toNat + (incU c j).toNat) / 256 := by
  have h := incU_le c j
  have := (c.getD (8 + j) 0).isLt
  simp only [incU, BitVec.toNat_ushiftRight, BitVec.toNat_add, BitVec.toNat_setWidth, Nat.shiftRight_eq_div_pow]
  omega
theorem inc8_eq (c : List (BitVec 8)) (j : Nat) : inc8 c j = BitVec.ofNat 8 ((c.getD (8 + j) 0).toNat + (incU c j).toNat) := by
  have h := incU_le c j
  have := (c.getD (8 + j) 0).isLt
  apply BitVec.eq_of_toNat_eq
  simp only [inc8, BitVec.toNat_setWidth, BitVec.toNat_add, BitVec.toNat_ofNat]
  omega
theorem inc_cnt (c : List (BitVec 8)) : inc c = cnt c 1 := by
  have h0 : (incU c 0).toNat = 1 := rfl
  unfold inc cnt
  simp only [inc8_eq, incU_succ, h0]
  simp [pick, addc, List.range_succ]

def gst (inp ctr key : List (BitVec 8)) (n : Nat) (o n' c' m : Nat) (l D b C : List (BitVec 8)) : St := ⟨[(0, .one (.s (.sl 2 o n' c'))), (1, .one (.s (.osl (2 + 6) m))), (3, .one (.s (.p (2 + 3) 0))), (8, .one (.s (.p (2 + 4) 0))), (9, .one (.s (.p (2 + 5) 0)))],
  [(2, ⟨n, .d8 D, true, false, false⟩), (2 + 1, ⟨inp.length, .d8 inp, false, false, false⟩), (2 + 2, ⟨16, .d8 (lit 0 16 ctr), false, false, false⟩), (2 + 3, ⟨32, .d8 (lit 0 32 key), false, false, false⟩), (2 + 4, ⟨64, .d8 (lit 0 64 b), true, false, false⟩), (2 + 5, ⟨16, .d8 (lit 0 16 C), true, false, false⟩), (2 + 6, ⟨m, .d8 l, false, false, false⟩)], 2 + 7⟩
/-- within the rounds over a block -/
def gin (inp ctr key : List (BitVec 8)) (n : Nat) (o n' c' m : Nat) (l D X C : List (BitVec 8)) (k : Nat) : St := ⟨[(0, .one (.s (.sl 2 o n' c'))), (1, .one (.s (.osl (2 + 6) m))), (3, .one (.s (.p (2 + 3) 0))), (8, .one (.s (.p (2 + 4) 0))), (9, .one (.s (.p (2 + 5) 0))), (27, .one (.ag [.d8 (lit 0 64 X)])), (28, .one (.s (.i k)))],
  [(2, ⟨n, .d8 D, true, false, false⟩), (2 + 1, ⟨inp.length, .d8 inp, false, false, false⟩), (2 + 2, ⟨16, .d8 (lit 0 16 ctr), false, false, false⟩), (2 + 3, ⟨32, .d8 (lit 0 32 key), false, false, false⟩), (2 + 4, ⟨64, .d8 (lit 0 64 X), true, false, false⟩), (2 + 5, ⟨16, .d8 (lit 0 16 C), true, false, false⟩), (2 + 6, ⟨m, .d8 l, false, false, false⟩)], 2 + 7⟩
/-- within the last rounds -/
def gla (inp ctr key : List (BitVec 8)) (n : Nat) (o n' c' m : Nat) (l D X C : List (BitVec 8)) (k : Nat) : St := ⟨[(0, .one (.s (.sl 2 o n' c'))), (8, .one (.s (.p (2 + 4) 0))), (68, .one (.s (.osl (2 + 6) m))), (69, .one (.s (.i m))), (70, .one (.s (.i k)))],
  [(2, ⟨n, .d8 D, true, false, false⟩), (2 + 1, ⟨inp.length, .d8 inp, false, false, false⟩), (2 + 2, ⟨16, .d8 (lit 0 16 ctr), false, false, false⟩), (2 + 3, ⟨32, .d8 (lit 0 32 key), false, false, false⟩), (2 + 4, ⟨64, .d8 (lit 0 64 X), true, false, false⟩), (2 + 6, ⟨m, .d8 l, false, false, false⟩)], 2 + 7⟩

def gT : List Nat := [0, 1, 3, 8, 9]
def gK : List Nat := [2, 2 + 1, 2 + 2, 2 + 3, 2 + 4, 2 + 5, 2 + 6]

/-- the first k bytes done -/
def mixS (inp ctr key out : List (BitVec 8)) (k : Nat) : List (BitVec 8) := strS inp ctr key k ++ out.drop k
theorem mixS_length (inp ctr key out : List (BitVec 8)) {k : Nat} (h : k ≤ out.length) : (mixS inp ctr key out k).length = out.length := by
  simp [mixS, strS_length]; omega
theorem mixS_set (inp ctr key out : List (BitVec 8)) {k : Nat} (h : k < out.length) : (mixS inp ctr key out k).set k (inp.getD k 0 ^^^ (blk ctr key (k / 64)).getD (k % 64) 0) = mixS inp ctr key out (k + 1) := by
  unfold mixS
  rw [List.set_append_right _ _ (by rw [strS_length]; omega), strS_length, Nat.sub_self, List.drop_eq_getElem_cons h, List.set_cons_zero]
  simp [strS]
end Go.Sx
