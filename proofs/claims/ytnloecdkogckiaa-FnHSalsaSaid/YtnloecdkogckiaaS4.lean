/- FnHSalsa: the walk. Conditions: none. -/
import Derived.Test.YtnloecdkogckiaaS3
set_option maxRecDepth 1000000
set_option linter.unusedVariables false
namespace Go.Sx
open Go.Proofs

noncomputable def HR (c : Bool) : Hook := hookC 16 (hookOf (cxb c) roundsCt) (hookC 13 (hookOf (cxb c) hsCt) (HQ c))
theorem HRok (B : Nat) (c : Bool) : HookOk P0 B 1 (HR c) := .cons (.ct (cx := cxb c) (rounds_ok B)) (.cons (.ct (cx := cxb c) (hs_ok B)) (HQok B c))

noncomputable def in14 : In := ⟨Try.f14, bodyOf Try.f14, 0, .read, noOrc⟩
theorem io14 : InOk P0 14 in14 := ⟨by kernel_rfl, by kernel_rfl, by kernel_rfl⟩
noncomputable def HS0 (c : Bool) : Hook := hookC 14 (inl (cxb c) (HR c) in14) (HR c)
theorem HS0ok (B : Nat) (c : Bool) : HookOk P0 B 1 (HS0 c) := HookOk.cons (HkOk.inl (cx := cxb c) mix T0ok (HRok B c) io14) (HRok B c)
noncomputable def in7 : In := ⟨Try.f7, bodyOf Try.f7, 20, .read, noOrc⟩
theorem io7 : InOk P0 7 in7 := ⟨by kernel_rfl, by kernel_rfl, by kernel_rfl⟩
noncomputable def HS1 (c : Bool) : Hook := hookC 7 (inl (cxb c) (HS0 c) in7) (HS0 c)
theorem HS1ok (B : Nat) (c : Bool) : HookOk P0 B 1 (HS1 c) := HookOk.cons (HkOk.inl (cx := cxb c) mix T0ok (HS0ok B c) io7) (HS0ok B c)
noncomputable def in6 : In := ⟨Try.f6, bodyOf Try.f6, 0, .read, noOrc⟩
theorem io6 : InOk P0 6 in6 := ⟨by kernel_rfl, by kernel_rfl, by kernel_rfl⟩
noncomputable def HS (c : Bool) : Hook := hookC 6 (inl (cxb c) (HS1 c) in6) (HS1 c)
theorem HSok (B : Nat) (c : Bool) : HookOk P0 B 1 (HS c) := HookOk.cons (HkOk.inl (cx := cxb c) mix T0ok (HS1ok B c) io6) (HS1ok B c)
def b4S (x : BitVec 32) : List (BitVec 8) := [(x >>> 0).setWidth 8, (x >>> 8).setWidth 8, (x >>> 16).setWidth 8, (x >>> 24).setWidth 8]
theorem b4S_eq (x : BitVec 32) : b4S x = b4 x := by simp [b4S, b4]
def hsOutS (x : List (BitVec 32)) : List (BitVec 8) := b4S (w_ x 0) ++ (b4S (w_ x 5) ++ (b4S (w_ x 10) ++ (b4S (w_ x 15) ++ (b4S (w_ x 6) ++ (b4S (w_ x 7) ++ (b4S (w_ x 8) ++ b4S (w_ x 9)))))))
theorem hsOutS_eq (x : List (BitVec 32)) : hsOutS x = hsOut x := by simp [hsOutS, hsOut, b4S_eq]

theorem lawHS1 (B : Nat) (inp key c : List (BitVec 8)) : FnE P0 B 1 3 [.one (.ag [.d8 (lit 0 16 inp)]), .one (.ag [.d8 (lit 0 32 key)]), .one (.ag [.d8 (lit 0 16 c)])] [] 1
    ⟨.one (.s (.b (decide (lit 0 32 (hs inp key c) = lit 0 32 (hsOutS (drs (mxW inp key c) 10)))))), [], 1, .eff, []⟩ := by
  refine FnE.tri (cx := cxb true) (sz := 17) (fn := Try.f3) (c := bodyOf Try.f3) T0ok (by kernel_rfl) (by kernel_rfl) (by kernel_rfl) (by kernel_rfl) (by kernel_rfl) (by kernel_rfl) (Nat.le_refl _) ?_
  exact Tri.ret (cx := cxb true) mix T0ok (HSok B true) 0 noOrc [6] [] (1 + 3) ⟨[(6, .one (.s (.b (decide (lit 0 32 (hs inp key c) = lit 0 32 (hsOutS (drs (mxW inp key c) 10)))))))], [], 1 + 3⟩ [] .r (by kernel_rfl) obNil (by kernel_rfl) rfl [] [] (by kernel_rfl) obNil

theorem lawHS (B : Nat) {inp key c : List (BitVec 8)} (h1 : inp.length = 16) (h2 : key.length = 32) (h3 : c.length = 16) : FnE P0 B 1 3 [.one (.ag [.d8 inp]), .one (.ag [.d8 key]), .one (.ag [.d8 c])] [] 1
    ⟨.one (.s (.b true)), [], 1, .eff, []⟩ := by
  have := lawHS1 B inp key c
  rw [lit_eq h1, lit_eq h2, lit_eq h3, hsOutS_eq] at this
  have e : decide (lit 0 32 (hs inp key c) = lit 0 32 (hsOut (drs (mxW inp key c) 10))) = true := by simp [hs]
  rw [e] at this
  exact this
end Go.Sx
