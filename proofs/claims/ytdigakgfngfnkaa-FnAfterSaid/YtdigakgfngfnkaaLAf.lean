/- FnAfter: for every input the law returns true. Conditions: none. -/
import Derived.Test.YtdigakgfngfnkaaRows
import Derived.Test.YtdigakgfngfnkaaW21Af
import Derived.WalkKit
import Derived.ProofKit
import Derived.OpenShut
import Derived.Handed
set_option linter.unusedVariables false
set_option maxRecDepth 1000000
namespace Go.Proofs.Ytdigakgfngfnkaa
open Go.ChangeShapes Go.WideShapes Go.ChangeAt Go.RowKit

theorem own : ownKnob Try.prog.godebug = none := by kernel_rfl
theorem laidOut : laidOutB Try.prog = true := by kernel_rfl

theorem lawAfter_lifted (os : Os) (started : os.Started) (H : Type) (enc : TypeId × Value → H) :
    ReturnsInHanded {} Try.checked os 7 .any (Rows.fnAfterSpec.pre6 enc Try.prog Try.f7 Rows.fnAfterRow.domain false) (Rows.fnAfterSpec.post enc Try.prog Try.f7 false true false false) := by
  refine returnsInHanded_of_change (C := Try.checked) own started (by kernel_rfl) Try.func7
    (ChangeSpec.witness6 (enc := enc) (C := Try.checked) false ⟨#[], #[.slice none 0 0, .slice none 0 0, .agg (Array.replicate 24 (.int .u8 0)), .agg (Array.replicate 32 (.int .u8 0))], []⟩ 8 (by kernel_rfl) (by kernel_rfl) (by kernel_rfl) (by kernel_rfl)) ?_
  intro W base args ds gs before hval0 hW hcnd _
  have hval : ∀ (j : Nat) t v, Try.f7.params[j]? = some t → args[j]? = some v → Value.okWide Try.prog W .any base t v := hval0
  have hW' := hW
  obtain ⟨p, q, hA0, hV, rfl, hfz, hnd⟩ := hW
  have hA : DataW.TrodAll enc Try.prog W 0 (fun _ => true) true Try.f7.params.toList args.toList ds p := hA0
  rw [Try.params7] at hA hval
  obtain ⟨v0, vs0, d0, ds0, p0, q0, hargs, rfl, rfl, h0, r0⟩ := trodAll_cons hA
  obtain ⟨v1, vs1, d1, ds1, p1, q1, rfl, rfl, rfl, h1, r1⟩ := trodAll_cons r0
  obtain ⟨v2, vs2, d2, ds2, p2, q2, rfl, rfl, rfl, h2, r2⟩ := trodAll_cons r1
  obtain ⟨v3, vs3, d3, ds3, p3, q3, rfl, rfl, rfl, h3, r3⟩ := trodAll_cons r2
  obtain ⟨rfl, rfl, rfl⟩ := trodAll_nil r3
  obtain rfl : args = #[v0, v1, v2, v3] := by cases args; simp_all
  obtain ⟨rfl, rfl⟩ := trodVars_none hV
  obtain ⟨l0, a0, z0⟩ := Sx.openSlc (e := 5) (by kernel_rfl) (by kernel_rfl) (by kernel_rfl) (hval 0 22 v0 rfl rfl) h0
  obtain ⟨l1, a1, z1⟩ := Sx.openSlc (e := 5) (by kernel_rfl) (by kernel_rfl) (by kernel_rfl) (hval 1 22 v1 rfl rfl) h1
  obtain ⟨l2, n2, e2⟩ := Sx.openArr (n := 24) (e := 5) (by kernel_rfl) (by kernel_rfl) (by kernel_rfl) (by kernel_rfl) (hval 2 23 v2 rfl rfl) h2
  obtain ⟨l3, n3, e3⟩ := Sx.openArr (n := 32) (e := 5) (by kernel_rfl) (by kernel_rfl) (by kernel_rfl) (by kernel_rfl) (hval 3 24 v3 rfl rfl) h3
  have call := Sx.lawCall (P := Try.prog) (W := W) (ng := 1) (lls := [(l0, a0), (l1, a1)]) (vs := #[v0, v1, v2, v3]) (by intro x hx; simp only [List.mem_cons, List.not_mem_nil, or_false] at hx; (rcases hx with rfl | rfl) <;> first | exact ⟨_, z0⟩ | exact ⟨_, z1⟩) rfl (Sx.lawAfter W.heap.size (l0 := l0) (Nat.le_trans z0.cap z0.max) (l1 := l1) (Nat.le_trans z1.cap z1.max) n2 n3) (by simp only [List.map_cons, List.map_nil]; rw [← z0.val _ 1 (by simp [Sx.envL]), ← z1.val _ 2 (by simp [Sx.envL]), ← e2, ← e3])
  refine call.mono fun e W' ⟨he, hb⟩ => ?_
  subst he
  exact ⟨_, rfl, Sx.lawPost (tb := 4) hW' rfl rfl (by kernel_rfl) (by kernel_rfl) laidOut (by rw [Try.params7]; decide +kernel) hb⟩

theorem lawAfter_holds : Rows.FnAfterSaid :=
  OpenClaim.holds_of_wide 7 Try.f7 rfl rfl rfl rfl rfl rfl rfl ⟨rfl, rfl, rfl, rfl, rfl⟩ rfl rfl rfl rfl rfl (by kernel_rfl) Try.func7 (by kernel_rfl)
    (of_decide_eq_true (by kernel_rfl)) (by unfold Func.isWrapper; first | (rw [if_pos (by decide +kernel)]; kernel_rfl) | (rw [if_neg (by decide +kernel)]; exact ⟨rfl, rfl⟩))
    (fun os started H enc _ => lawAfter_lifted os started H enc)
end Go.Proofs.Ytdigakgfngfnkaa
