/- FnHSalsa: the walk. Conditions: none. -/
import Derived.Test.YtioeoacjnbckhaaS3
set_option maxRecDepth 1000000
set_option linter.unusedVariables false
namespace Go.Sx
open Go.Proofs

noncomputable def HR (c : Bool) : Hook := hookC 42 (hookOf (cxb c) roundsCt) (hookC 39 (hookOf (cxb c) hsCt) (HQ c))
theorem HRok (B : Nat) (c : Bool) : HookOk P0 B 2 (HR c) := .cons (.ct (cx := cxb c) (rounds_ok B)) (.cons (.ct (cx := cxb c) (hs_ok B)) (HQok B c))

noncomputable def in40 : In := ⟨Try.f40, bodyOf Try.f40, 0, .read, noOrc⟩
theorem io40 : InOk P0 40 in40 := ⟨by kernel_rfl, by kernel_rfl, by kernel_rfl⟩
noncomputable def HS0 (c : Bool) : Hook := hookC 40 (inl (cxb c) (HR c) in40) (HR c)
theorem HS0ok (B : Nat) (c : Bool) : HookOk P0 B 2 (HS0 c) := HookOk.cons (HkOk.inl (cx := cxb c) mix T0ok (HRok B c) io40) (HRok B c)
noncomputable def in18 : In := ⟨Try.f18, bodyOf Try.f18, 20, .read, noOrc⟩
theorem io18 : InOk P0 18 in18 := ⟨by kernel_rfl, by kernel_rfl, by kernel_rfl⟩
noncomputable def HS1 (c : Bool) : Hook := hookC 18 (inl (cxb c) (HS0 c) in18) (HS0 c)
theorem HS1ok (B : Nat) (c : Bool) : HookOk P0 B 2 (HS1 c) := HookOk.cons (HkOk.inl (cx := cxb c) mix T0ok (HS0ok B c) io18) (HS0ok B c)
noncomputable def in17 : In := ⟨Try.f17, bodyOf Try.f17, 0, .read, noOrc⟩
theorem io17 : InOk P0 17 in17 := ⟨by kernel_rfl, by kernel_rfl, by kernel_rfl⟩
noncomputable def HS (c : Bool) : Hook := hookC 17 (inl (cxb c) (HS1 c) in17) (HS1 c)
theorem HSok (B : Nat) (c : Bool) : HookOk P0 B 2 (HS c) := HookOk.cons (HkOk.inl (cx := cxb c) mix T0ok (HS1ok B c) io17) (HS1ok B c)
def b4S (x : BitVec 32) : List (BitVec 8) := [(x >>> 0).setWidth 8, (x >>> 8).setWidth 8, (x >>> 16).setWidth 8, (x >>> 24).setWidth 8]
theorem b4S_eq (x : BitVec 32) : b4S x = b4 x := by simp [b4S, b4]
def hsOutS (x : List (BitVec 32)) : List (BitVec 8) := b4S (w_ x 0) ++ (b4S (w_ x 5) ++ (b4S (w_ x 10) ++ (b4S (w_ x 15) ++ (b4S (w_ x 6) ++ (b4S (w_ x 7) ++ (b4S (w_ x 8) ++ b4S (w_ x 9)))))))
theorem hsOutS_eq (x : List (BitVec 32)) : hsOutS x = hsOut x := by simp [hsOutS, hsOut, b4S_eq]

theorem lawHS1 (B : Nat) (inp key c : List (BitVec 8)) : FnE P0 B 2 3 [.one (.ag [.d8 (lit 0 16 inp)]), .one (.ag [.d8 (lit 0 32 key)]), .one (.ag [.d8 (lit 0 16 c)])] [] 2
    ⟨.one (.s (.b (decide (lit 0 32 (hs inp key c) = lit 0 32 (hsOutS (drs (mxW inp key c) 10)))))), [], 2, .eff, []⟩ := by
  refine FnE.tri (cx := cxb true) (sz := 17) (fn := Try.f3) (c := bodyOf Try.f3) T0ok (by kernel_rfl) (by kernel_rfl) (by kernel_rfl) (by kernel_rfl) (by kernel_rfl) (by kernel_rfl) (Nat.le_refl _) ?_
  exact Tri.ret (cx := cxb true) mix T0ok (HSok B true) 0 noOrc [6] [] (2 + 3) ⟨[(6, .one (.s (.b (decide (lit 0 32 (hs inp key c) = lit 0 32 (hsOutS (drs (mxW inp key c) 10)))))))], [], 2 + 3⟩ [] .r (by kernel_rfl) obNil (by kernel_rfl) rfl [] [] (by kernel_rfl) obNil

theorem lawHS (B : Nat) {inp key c : List (BitVec 8)} (h1 : inp.length = 16) (h2 : key.length = 32) (h3 : c.length = 16) : FnE P0 B 2 3 [.one (.ag [.d8 inp]), .one (.ag [.d8 key]), .one (.ag [.d8 c])] [] 2
    ⟨.one (.s (.b true)), [], 2, .eff, []⟩ := by
  have := lawHS1 B inp key c
  rw [lit_eq h1, lit_eq h2, lit_eq h3, hsOutS_eq] at this
  have e : decide (lit 0 32 (hs inp key c) = lit 0 32 (hsOut (drs (mxW inp key c) 10))) = true := by simp [hs]
  rw [e] at this
  exact this
end Go.Sx
