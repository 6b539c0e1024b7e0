/- FnPrecomputeBoth: the statement and its card. Conditions: none. -/
import Derived.Test.YtnloecdkogckiaaDoorL8
import Derived.Test.YtnloecdkogckiaaDoorZ4
set_option linter.unusedVariables false
set_option maxRecDepth 1000000
namespace Go.Proofs.YtnloecdkogckiaaDoor
open Go.ChangeShapes Go.WideShapes Go.ChangeAt Go.RowKit

theorem fnPrecomputeBoth_met (os : Os) (args : Array Value) : laidMetH Tryd.prog Rows.fnPrecomputeBothRow.laid ((World.doorLaid Tryd.prog 72 os).forCall (fun _ _ => 0) ⟨#[], args, []⟩).memory :=
  laidMetH_of_parts3 (fuel := 8) (laidMet_of_run' 8 (by kernel_rfl) (by kernel_rfl)) (by kernel_rfl) (by kernel_rfl)
theorem fnPrecomputeBoth_fe {W : World} (h : laidMetH Tryd.prog Rows.fnPrecomputeBothRow.laid W) :
    ∃ b o, W.cell? ⟨3, 0, none⟩ = some (.pointer (some ⟨b, o, none⟩)) ∧ ∀ j, j < 5 → W.cell? ⟨b, o + j, none⟩ = some (.int .u64 ((Sx.one5.getD j 0).toNat : Int)) := by
  rw [MakeChecks.laidMetH_plain _ _ _ (by kernel_rfl)] at h
  obtain ⟨ps, hV, _⟩ := h
  exact of_fe hV

theorem fnPrecomputeBoth_lifted (os : Os) (started : os.Started) (H : Type) (enc : TypeId × Value → H) :
    ReturnsInHanded {} Tryd.checked os 5 .any (fun w args => (Rows.fnPrecomputeBothSpec.pre enc Tryd.prog Tryd.f5 [] false w args ∧ laidMetH Tryd.prog Rows.fnPrecomputeBothRow.laid w) ∧ sizedMet enc Tryd.prog Tryd.f5 (OpenSpec.ofChange Rows.fnPrecomputeBothSpec) false w args)
      (Rows.fnPrecomputeBothSpec.post enc Tryd.prog Tryd.f5 false true false false) := by
  refine returnsInHanded_of_change_and (C := Tryd.checked) (X := fun w _ => laidMetH Tryd.prog Rows.fnPrecomputeBothRow.laid w) (fun _ _ _ hh h => h.of_heap hh) own started (by kernel_rfl) Tryd.func5
    (ChangeSpec.witness_shaped (enc := enc) (C := Tryd.checked) (os := os) (X := fun w _ => laidMetH Tryd.prog Rows.fnPrecomputeBothRow.laid w) false (World.doorLaid Tryd.prog 72 os) #[.agg (Array.replicate 32 (.int .u8 0)), .agg (Array.replicate 32 (.int .u8 0))] 8 rfl (World.shaped_of_RefB (by kernel_rfl) (by kernel_rfl)) (by kernel_rfl) (by kernel_rfl) (by kernel_rfl) (fnPrecomputeBoth_met os _)) ?_
  intro W base args ds gs before hval0 hW _ _ hL _
  have hval : ∀ (j : Nat) t v, Tryd.f5.params[j]? = some t → args[j]? = some v → Value.okWide Tryd.prog W .any base t v := hval0
  have hW' := hW
  obtain ⟨p, q, hA0, hV, rfl, hfz, hnd⟩ := hW
  have hA : DataW.TrodAll enc Tryd.prog W 0 (fun _ => true) true Tryd.f5.params.toList args.toList ds p := hA0
  rw [Tryd.params5] at hA hval
  obtain ⟨v0, vs0, d0, ds0, p0, q0, hargs, rfl, rfl, h0, r0⟩ := trodAll_cons hA
  obtain ⟨v1, vs1, d1, ds1, p1, q1, rfl, rfl, rfl, h1, r1⟩ := trodAll_cons r0
  obtain ⟨rfl, rfl, rfl⟩ := trodAll_nil r1
  obtain rfl : args = #[v0, v1] := by cases args; simp_all
  obtain ⟨l0, n0, e0⟩ := Sx.openArr (n := 32) (e := 5) (by kernel_rfl) (by kernel_rfl) (by kernel_rfl) (by kernel_rfl) (hval 0 22 v0 rfl rfl) h0
  obtain ⟨l1, n1, e1⟩ := Sx.openArr (n := 32) (e := 5) (by kernel_rfl) (by kernel_rfl) (by kernel_rfl) (by kernel_rfl) (hval 1 22 v1 rfl rfl) h1
  obtain ⟨b, o, c3, c5⟩ := fnPrecomputeBoth_fe hL
  have hm := Sx.memG (ng := 4) (nx := 4 + 1) (m := Sx.gM) (Sx.gM_ro (locs := []) (Nat.lt_succ_self _) c3 c5) (fun g hg => by unfold Sx.envG; rw [if_pos hg]; exact ⟨rfl, rfl⟩) (Nat.le_succ _)
  have call := Sx.lawCallG (P := Tryd.prog) (W := W) hm (vs := #[v0, v1]) rfl (Sx.lawBoth W.heap.size n0 n1) (by simp only [List.map_cons, List.map_nil]; rw [← e0, ← e1])
  refine call.mono fun e W' ⟨he, hb⟩ => ?_
  subst he
  exact ⟨_, rfl, Sx.lawPostV (tb := 4) (tv := 84) (te := 83) hW' rfl (fun _ => rfl) (by kernel_rfl) (by kernel_rfl) laidOut (by rw [Tryd.params5]; decide +kernel) gFe tFe uPtr (by decide +kernel) hb⟩

theorem fnPrecomputeBoth_holds : Rows.FnPrecomputeBothSaid :=
  OpenClaim.holds_of_wide 5 Tryd.f5 rfl rfl rfl rfl rfl rfl rfl ⟨rfl, rfl, rfl, rfl, rfl⟩ rfl rfl rfl rfl rfl (by kernel_rfl) Tryd.func5 (by kernel_rfl)
    (of_decide_eq_true (by kernel_rfl)) (by unfold Func.isWrapper; first | (rw [if_pos (by decide +kernel)]; kernel_rfl) | (rw [if_neg (by decide +kernel)]; exact ⟨rfl, rfl⟩))
    (fun os started H enc _ => fnPrecomputeBoth_lifted os started H enc)

theorem fnPrecomputeBoth_card : Rows.FnPrecomputeBothCardSaid :=
  Claim7.holds_tied_plain_at .later [] [.widerDeep, .sentinel, .sentinel, .sentinel] true (true, "c9e7ec732d0df95650b7a984983e53a06c58997cbcfa96f835527b1138e4478f") true
    fnPrecomputeBoth_holds (fun _ h => by cases h) (by kernel_rfl) (fun _ h => by cases h) fnPrecomputeBoth_row_tie rfl ⟨rfl, rfl⟩ (by kernel_rfl) rfl
    (fun f fn hf hfn => by
      obtain rfl : f = 5 := Option.some.inj ((show Tryd.prog.funcNamed "loop.example/pub-g03045/laws.FnPrecomputeBoth" = some 5 by kernel_rfl).symm.trans hf) |>.symm
      obtain rfl : fn = Tryd.f5 := (Option.some.inj (Tryd.func5.symm.trans hfn)).symm
      exact ⟨by kernel_rfl, fun j t ht => by
        rw [Tryd.params5] at ht
        have h3 : t = 22 := by
          rcases j with _ | _ | j
          · simpa using ht.symm
          · simpa using ht.symm
          · simp at ht
        subst h3
        exact (show Tryd.prog.wantsStandIn 22 = false by kernel_rfl)⟩)
    (by kernel_rfl)
end Go.Proofs.YtnloecdkogckiaaDoor
