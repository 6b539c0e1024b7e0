/- FnCore208: the walk. Conditions: none. -/
import Derived.Test.YtioeoacjnbckhaaS6
set_option maxRecDepth 1000000
set_option linter.unusedVariables false
namespace Go.Sx
open Go.Proofs

noncomputable def HC (c : Bool) : Hook := hookC 42 (hookOf (cxb c) roundsCt) (hookC 43 (hookOf (cxb c) c208Ct) (HQ c))
theorem HCok (B : Nat) (c : Bool) : HookOk P0 B 2 (HC c) := .cons (.ct (cx := cxb c) (rounds_ok B)) (.cons (.ct (cx := cxb c) (c208_ok B)) (HQok B c))

noncomputable def in44 : In := ⟨Try.f44, bodyOf Try.f44, 66, .read, noOrc⟩
theorem io44 : InOk P0 44 in44 := ⟨by kernel_rfl, by kernel_rfl, by kernel_rfl⟩
noncomputable def HD0 (c : Bool) : Hook := hookC 44 (inl (cxb c) (HC c) in44) (HC c)
theorem HD0ok (B : Nat) (c : Bool) : HookOk P0 B 2 (HD0 c) := HookOk.cons (HkOk.inl (cx := cxb c) mix T0ok (HCok B c) io44) (HCok B c)
noncomputable def in20 : In := ⟨Try.f20, bodyOf Try.f20, 0, .read, noOrc⟩
theorem io20 : InOk P0 20 in20 := ⟨by kernel_rfl, by kernel_rfl, by kernel_rfl⟩
noncomputable def HD1 (c : Bool) : Hook := hookC 20 (inl (cxb c) (HD0 c) in20) (HD0 c)
theorem HD1ok (B : Nat) (c : Bool) : HookOk P0 B 2 (HD1 c) := HookOk.cons (HkOk.inl (cx := cxb c) mix T0ok (HD0ok B c) io20) (HD0ok B c)
noncomputable def in19 : In := ⟨Try.f19, bodyOf Try.f19, 0, .read, noOrc⟩
theorem io19 : InOk P0 19 in19 := ⟨by kernel_rfl, by kernel_rfl, by kernel_rfl⟩
noncomputable def HD (c : Bool) : Hook := hookC 19 (inl (cxb c) (HD1 c) in19) (HD1 c)
theorem HDok (B : Nat) (c : Bool) : HookOk P0 B 2 (HD c) := HookOk.cons (HkOk.inl (cx := cxb c) mix T0ok (HD1ok B c) io19) (HD1ok B c)
def one64 : List (BitVec 8) := 1 :: List.replicate 63 0

theorem lawC1 (B : Nat) (x : List (BitVec 8)) (h : coreI (ws64 x) 4 = coreS (ws64 x) 4) : FnE P0 B 2 4 [.one (.ag [.d8 (lit 0 64 x)])] [] 2
    ⟨.one (.s (.b (bif decide (lit 0 64 (coreI (ws64 x) 4) = lit 0 64 (coreS (ws64 x) 4)) then !decide (lit 0 64 (coreI (ws64 one64) 4) = List.replicate 64 0) else false))), [], 2, .eff, []⟩ := by
  refine FnE.tri (cx := cxb true) (sz := 14) (fn := Try.f4) (c := bodyOf Try.f4) T0ok (by kernel_rfl) (by kernel_rfl) (by kernel_rfl) (by kernel_rfl) (by kernel_rfl) (by kernel_rfl) (Nat.le_refl _) ?_
  exact Tri.ret (cx := cxb true) mix T0ok (HDok B true) 0 (orcL [(8, true)]) [2] [] (2 + 3) ⟨[(2, .one (.s (.b (bif decide (lit 0 64 (coreI (ws64 x) 4) = lit 0 64 (coreS (ws64 x) 4)) then !decide (lit 0 64 (coreI (ws64 one64) 4) = List.replicate 64 0) else false))))], [], 2 + 3⟩
    [decide (lit 0 64 (coreI (ws64 x) 4) = lit 0 64 (coreS (ws64 x) 4)) = true, decide (lit 0 64 (coreI (ws64 x) 4) = lit 0 64 (coreS (ws64 x) 4)) = true, decide (lit 0 64 (coreI (ws64 x) 4) = lit 0 64 (coreS (ws64 x) 4)) = true, decide (lit 0 64 (coreI (ws64 x) 4) = lit 0 64 (coreS (ws64 x) 4)) = true] .r (by kernel_rfl)
    (obCons (by rw [h]; simp) <| obCons (by rw [h]; simp) <| obCons (by rw [h]; simp) <| obCons (by rw [h]; simp) obNil) (by kernel_rfl) rfl [] [] (by kernel_rfl) obNil

theorem one64_ne : decide (lit 0 64 (coreI (ws64 one64) 4) = List.replicate 64 0) = false := by decide +kernel

theorem lawC (B : Nat) {x : List (BitVec 8)} (h1 : x.length = 64) : FnE P0 B 2 4 [.one (.ag [.d8 x])] [] 2 ⟨.one (.s (.b true)), [], 2, .eff, []⟩ := by
  have := lawC1 B x (coreS_eq _ _).symm
  rw [lit_eq h1, coreS_eq, one64_ne] at this
  simpa using this
end Go.Sx
