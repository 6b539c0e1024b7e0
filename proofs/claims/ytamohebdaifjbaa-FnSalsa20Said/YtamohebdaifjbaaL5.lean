/- FnSalsa20: for every input the law returns true. Conditions: none. -/
import Derived.Test.YtamohebdaifjbaaRows
import Derived.Test.YtamohebdaifjbaaS21
import Derived.WalkKit
import Derived.ProofKit
import Derived.OpenShut
import Derived.Handed
set_option linter.unusedVariables false
set_option maxRecDepth 1000000
namespace Go.Proofs.Ytamohebdaifjbaa
open Go.ChangeShapes Go.WideShapes Go.ChangeAt Go.RowKit

theorem own : ownKnob Try.prog.godebug = none := by kernel_rfl
theorem laidOut : laidOutB Try.prog = true := by kernel_rfl

theorem lawF_lifted (os : Os) (started : os.Started) (H : Type) (enc : TypeId × Value → H) :
    ReturnsInHanded {} Try.checked os 5 .any (Rows.fnSalsa20Spec.pre6 enc Try.prog Try.f5 Rows.fnSalsa20Row.domain false) (Rows.fnSalsa20Spec.post enc Try.prog Try.f5 false true false false) := by
  refine returnsInHanded_of_change (C := Try.checked) own started (by kernel_rfl) Try.func5
    (ChangeSpec.witness6 (enc := enc) (C := Try.checked) false ⟨#[], #[.agg (Array.replicate 32 (.int .u8 0)), .slice none 0 0, .slice none 0 0], []⟩ 8 (by kernel_rfl) (by kernel_rfl) (by kernel_rfl) (by kernel_rfl)) ?_
  intro W base args ds gs before hval0 hW hcnd _
  have hval : ∀ (j : Nat) t v, Try.f5.params[j]? = some t → args[j]? = some v → Value.okWide Try.prog W .any base t v := hval0
  have hW' := hW
  obtain ⟨p, q, hA0, hV, rfl, hfz, hnd⟩ := hW
  have hA : DataW.TrodAll enc Try.prog W 0 (fun _ => true) true Try.f5.params.toList args.toList ds p := hA0
  rw [Try.params5] at hA hval
  obtain ⟨v0, vs0, d0, ds0, p0, q0, hargs, rfl, rfl, h0, r0⟩ := trodAll_cons hA
  obtain ⟨v1, vs1, d1, ds1, p1, q1, rfl, rfl, rfl, h1, r1⟩ := trodAll_cons r0
  obtain ⟨v2, vs2, d2, ds2, p2, q2, rfl, rfl, rfl, h2, r2⟩ := trodAll_cons r1
  obtain ⟨rfl, rfl, rfl⟩ := trodAll_nil r2
  obtain rfl : args = #[v0, v1, v2] := by cases args; simp_all
  obtain ⟨rfl, rfl⟩ := trodVars_none hV
  obtain ⟨l0, n0, e0⟩ := Sx.openArr (n := 32) (e := 5) (by kernel_rfl) (by kernel_rfl) (by kernel_rfl) (by kernel_rfl) (hval 0 27 v0 rfl rfl) h0
  obtain ⟨l1, a1, z1⟩ := Sx.openSlc (e := 5) (by kernel_rfl) (by kernel_rfl) (by kernel_rfl) (hval 1 25 v1 rfl rfl) h1
  obtain ⟨l2, a2, z2⟩ := Sx.openSlc (e := 5) (by kernel_rfl) (by kernel_rfl) (by kernel_rfl) (hval 2 25 v2 rfl rfl) h2
  have call := Sx.lawCall (P := Try.prog) (W := W) (ng := 0) (lls := [(l1, a1), (l2, a2)]) (vs := #[v0, v1, v2]) (by intro x hx; simp only [List.mem_cons, List.not_mem_nil, or_false] at hx; (rcases hx with rfl | rfl) <;> first | exact ⟨_, z1⟩ | exact ⟨_, z2⟩) rfl (Sx.lawF W.heap.size n0 (l1 := l1) (Nat.le_trans z1.cap z1.max) (l2 := l2) (Nat.le_trans z2.cap z2.max)) (by simp only [List.map_cons, List.map_nil]; rw [← e0, ← z1.val _ 0 (by simp [Sx.envL]), ← z2.val _ 1 (by simp [Sx.envL])])
  refine call.mono fun e W' ⟨he, hb⟩ => ?_
  subst he
  exact ⟨_, rfl, Sx.lawPost (tb := 4) hW' rfl rfl (by kernel_rfl) (by kernel_rfl) laidOut (by rw [Try.params5]; decide +kernel) hb⟩

theorem lawF_holds : Rows.FnSalsa20Said :=
  OpenClaim.holds_of_wide 5 Try.f5 rfl rfl rfl rfl rfl rfl rfl ⟨rfl, rfl, rfl, rfl, rfl⟩ rfl rfl rfl rfl rfl (by kernel_rfl) Try.func5 (by kernel_rfl)
    (of_decide_eq_true (by kernel_rfl)) (by unfold Func.isWrapper; first | (rw [if_pos (by decide +kernel)]; kernel_rfl) | (rw [if_neg (by decide +kernel)]; exact ⟨rfl, rfl⟩))
    (fun os started H enc _ => lawF_lifted os started H enc)
end Go.Proofs.Ytamohebdaifjbaa
