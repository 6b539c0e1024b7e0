/- FnPrecompute: for every input the law returns true; the card. FnPrecompute: the statement and its card. Conditions: none. -/
import Derived.Test.YtnloecdkogckiaaDoorRows
import Derived.Test.YtnloecdkogckiaaDoorCards
import Derived.Test.YtnloecdkogckiaaDoorTie
import Derived.Test.YtnloecdkogckiaaDoorY0
import Derived.WalkKit
import Derived.ProofKit
import Derived.OpenShut
import Derived.Handed
import Derived.LaidMore
import Derived.Deep.Fields
import Derived.SevenTiedAt
set_option linter.unusedVariables false
set_option maxRecDepth 1000000
namespace Go.Proofs.YtnloecdkogckiaaDoor
open Go.ChangeShapes Go.WideShapes Go.ChangeAt Go.RowKit Go.Deep

theorem own : ownKnob Tryd.prog.godebug = none := by kernel_rfl
theorem laidOut : laidOutB Tryd.prog = true := by kernel_rfl
theorem gFe : Tryd.prog.globalNamed "loop.example/pub-g03045/pub/field.feOne" = some 3 := by kernel_rfl
theorem tFe : (Tryd.prog.globals[3]?).map (·.type) = some 84 := by kernel_rfl
theorem uPtr : Tryd.prog.underlying 84 = some (.pointer 83) := by kernel_rfl
theorem cElt : Tryd.prog.cellsOf 83 = 5 := by kernel_rfl
noncomputable def fsE : Array Field := match Tryd.prog.underlying 83 with
  | some (.struct fs) => fs
  | _ => #[]
theorem uElt : Tryd.prog.underlying 83 = some (.struct fsE) := by kernel_rfl
theorem fsE_all : (List.range 5).all (fun i => match fsE[i]? with | some f => f.offset == i && f.type == 46 | none => false) = true := by kernel_rfl
theorem fsE_size : fsE.size = 5 := by kernel_rfl
theorem fsE_at {i : Nat} {f : Field} (h : fsE[i]? = some f) : i < 5 ∧ f.offset = i ∧ f.type = 46 := by
  have hi : i < 5 := fsE_size ▸ (Array.getElem?_eq_some_iff.1 h).1
  have := List.all_eq_true.1 fsE_all i (List.mem_range.2 hi)
  rw [h] at this
  simp only [Bool.and_eq_true, beq_iff_eq] at this
  exact ⟨hi, this⟩
theorem fsE_get {i : Nat} (hi : i < 5) : ∃ f, fsE[i]? = some f := ⟨fsE[i]'(by rw [fsE_size]; exact hi), Array.getElem?_eq_getElem (by rw [fsE_size]; exact hi)⟩
theorem u64T : Tryd.prog.underlying 46 = some (.int .u64) := by kernel_rfl
theorem c64T : Tryd.prog.cellsOf 46 = 1 := by kernel_rfl

/-- what the condition gives the walk: the variable's cell, and the cells behind it -/
theorem of_fe {W : World} {r : List (String × DataW Unit)} {ps : List MemPlace} (h : DataW.LaidVars Tryd.prog W (("loop.example/pub-g03045/pub/field.feOne", Rows.laid_loop_example_pub_g03045_pub_field_feOne) :: r) ps) :
    ∃ b o, W.cell? ⟨3, 0, none⟩ = some (.pointer (some ⟨b, o, none⟩)) ∧ ∀ j, j < 5 → W.cell? ⟨b, o + j, none⟩ = some (.int .u64 ((Sx.one5.getD j 0).toNat : Int)) := by
  obtain ⟨g, t, cs, f, p, q, hg, ht, hv, hd, _, _⟩ := h
  obtain rfl := Option.some.inj (gFe.symm.trans hg)
  obtain rfl := Option.some.inj (tFe.symm.trans ht)
  rcases open_ptr_fields uPtr uElt (fun i f hf => ⟨(fsE_at hf).2.1, by rw [(fsE_at hf).2.2]; exact c64T⟩) (by rw [fsE_size]; exact cElt) (by rw [fsE_size]; decide) hd with ⟨_, hx⟩ | ⟨b, o, n, V, Y, hcs, _, hx, hf⟩
  · cases hx
  have hc0 := World.var?_cell hg hv 0
  rw [Array.eq_one_of_toList hcs] at hc0
  refine ⟨b, o, by simpa using hc0, fun j hj => ?_⟩
  obtain ⟨f, hfj⟩ := fsE_get hj
  obtain ⟨h1, h2⟩ := hf j f hfj
  rw [(fsE_at hfj).2.2] at h2
  obtain ⟨m, e1, e2, _⟩ := DataW.trod_int u64T h2
  rw [h1]
  have e3 : V j = .int .u64 m := by simpa using e1
  rw [e3]
  have hx1 := congrArg Prod.fst hx
  rw [fsE_size] at hx1
  have hx2 : ([.lit (.int .u64 1), .lit (.int .u64 0), .lit (.int .u64 0), .lit (.int .u64 0), .lit (.int .u64 0)] : List (DataW Unit)) = (List.range 5).map fun i => (Y i).1 := by
    have : (DataW.ptr (.agg [.lit (.int .u64 1), .lit (.int .u64 0), .lit (.int .u64 0), .lit (.int .u64 0), .lit (.int .u64 0)]) : DataW Unit) = .ptr (.agg ((List.range 5).map fun i => (Y i).1)) := hx1
    simpa only [DataW.ptr.injEq, DataW.agg.injEq] using this
  have hx3 := congrArg (fun l => l[j]?) hx2
  simp only [List.getElem?_map, List.getElem?_range hj, Option.map_some, e2] at hx3
  have : ∀ j m, j < 5 → ([.lit (.int .u64 1), .lit (.int .u64 0), .lit (.int .u64 0), .lit (.int .u64 0), .lit (.int .u64 0)] : List (DataW Unit))[j]? = some (.lit (.int .u64 m)) → m = ((Sx.one5.getD j 0).toNat : Int) := by
    intro j m hj h
    match j, hj with
    | 0, _ => cases h; rfl
    | 1, _ => cases h; rfl
    | 2, _ => cases h; rfl
    | 3, _ => cases h; rfl
    | 4, _ => cases h; rfl
  rw [this j m hj hx3]
end Go.Proofs.YtnloecdkogckiaaDoor

set_option linter.unusedVariables false
set_option maxRecDepth 1000000
namespace Go.Proofs.YtnloecdkogckiaaDoor
open Go.ChangeShapes Go.WideShapes Go.ChangeAt Go.RowKit

theorem fnPrecompute_met (os : Os) (args : Array Value) : laidMetH Tryd.prog Rows.fnPrecomputeRow.laid ((World.doorLaid Tryd.prog 72 os).forCall (fun _ _ => 0) ⟨#[], args, []⟩).memory :=
  laidMetH_of_parts3 (fuel := 8) (laidMet_of_run' 8 (by kernel_rfl) (by kernel_rfl)) (by kernel_rfl) (by kernel_rfl)
theorem fnPrecompute_fe {W : World} (h : laidMetH Tryd.prog Rows.fnPrecomputeRow.laid W) :
    ∃ b o, W.cell? ⟨3, 0, none⟩ = some (.pointer (some ⟨b, o, none⟩)) ∧ ∀ j, j < 5 → W.cell? ⟨b, o + j, none⟩ = some (.int .u64 ((Sx.one5.getD j 0).toNat : Int)) := by
  rw [MakeChecks.laidMetH_plain _ _ _ (by kernel_rfl)] at h
  obtain ⟨ps, hV, _⟩ := h
  exact of_fe hV

theorem fnPrecompute_lifted (os : Os) (started : os.Started) (H : Type) (enc : TypeId × Value → H) :
    ReturnsInHanded {} Tryd.checked os 4 .any (fun w args => (Rows.fnPrecomputeSpec.pre enc Tryd.prog Tryd.f4 [] false w args ∧ laidMetH Tryd.prog Rows.fnPrecomputeRow.laid w) ∧ sizedMet enc Tryd.prog Tryd.f4 (OpenSpec.ofChange Rows.fnPrecomputeSpec) false w args)
      (Rows.fnPrecomputeSpec.post enc Tryd.prog Tryd.f4 false true false false) := by
  refine returnsInHanded_of_change_and (C := Tryd.checked) (X := fun w _ => laidMetH Tryd.prog Rows.fnPrecomputeRow.laid w) (fun _ _ _ hh h => h.of_heap hh) own started (by kernel_rfl) Tryd.func4
    (ChangeSpec.witness_shaped (enc := enc) (C := Tryd.checked) (os := os) (X := fun w _ => laidMetH Tryd.prog Rows.fnPrecomputeRow.laid w) false (World.doorLaid Tryd.prog 72 os) #[.agg (Array.replicate 32 (.int .u8 0)), .agg (Array.replicate 32 (.int .u8 0))] 8 rfl (World.shaped_of_RefB (by kernel_rfl) (by kernel_rfl)) (by kernel_rfl) (by kernel_rfl) (by kernel_rfl) (fnPrecompute_met os _)) ?_
  intro W base args ds gs before hval0 hW _ _ hL _
  have hval : ∀ (j : Nat) t v, Tryd.f4.params[j]? = some t → args[j]? = some v → Value.okWide Tryd.prog W .any base t v := hval0
  have hW' := hW
  obtain ⟨p, q, hA0, hV, rfl, hfz, hnd⟩ := hW
  have hA : DataW.TrodAll enc Tryd.prog W 0 (fun _ => true) true Tryd.f4.params.toList args.toList ds p := hA0
  rw [Tryd.params4] at hA hval
  obtain ⟨v0, vs0, d0, ds0, p0, q0, hargs, rfl, rfl, h0, r0⟩ := trodAll_cons hA
  obtain ⟨v1, vs1, d1, ds1, p1, q1, rfl, rfl, rfl, h1, r1⟩ := trodAll_cons r0
  obtain ⟨rfl, rfl, rfl⟩ := trodAll_nil r1
  obtain rfl : args = #[v0, v1] := by cases args; simp_all
  obtain ⟨l0, n0, e0⟩ := Sx.openArr (n := 32) (e := 5) (by kernel_rfl) (by kernel_rfl) (by kernel_rfl) (by kernel_rfl) (hval 0 22 v0 rfl rfl) h0
  obtain ⟨l1, n1, e1⟩ := Sx.openArr (n := 32) (e := 5) (by kernel_rfl) (by kernel_rfl) (by kernel_rfl) (by kernel_rfl) (hval 1 22 v1 rfl rfl) h1
  obtain ⟨b, o, c3, c5⟩ := fnPrecompute_fe hL
  have hm := Sx.memG (ng := 4) (nx := 4 + 1) (m := Sx.gM) (Sx.gM_ro (locs := []) (Nat.lt_succ_self _) c3 c5) (fun g hg => by unfold Sx.envG; rw [if_pos hg]; exact ⟨rfl, rfl⟩) (Nat.le_succ _)
  have call := Sx.lawCallG (P := Tryd.prog) (W := W) hm (vs := #[v0, v1]) rfl (Sx.lawPc W.heap.size n0 n1) (by simp only [List.map_cons, List.map_nil]; rw [← e0, ← e1])
  refine call.mono fun e W' ⟨he, hb⟩ => ?_
  subst he
  exact ⟨_, rfl, Sx.lawPostV (tb := 4) (tv := 84) (te := 83) hW' rfl (fun _ => rfl) (by kernel_rfl) (by kernel_rfl) laidOut (by rw [Tryd.params4]; decide +kernel) gFe tFe uPtr (by decide +kernel) hb⟩

theorem fnPrecompute_holds : Rows.FnPrecomputeSaid :=
  OpenClaim.holds_of_wide 4 Tryd.f4 rfl rfl rfl rfl rfl rfl rfl ⟨rfl, rfl, rfl, rfl, rfl⟩ rfl rfl rfl rfl rfl (by kernel_rfl) Tryd.func4 (by kernel_rfl)
    (of_decide_eq_true (by kernel_rfl)) (by unfold Func.isWrapper; first | (rw [if_pos (by decide +kernel)]; kernel_rfl) | (rw [if_neg (by decide +kernel)]; exact ⟨rfl, rfl⟩))
    (fun os started H enc _ => fnPrecompute_lifted os started H enc)

theorem fnPrecompute_card : Rows.FnPrecomputeCardSaid :=
  Claim7.holds_tied_plain_at .later [] [.widerDeep] true (true, "c9e7ec732d0df95650b7a984983e53a06c58997cbcfa96f835527b1138e4478f") true
    fnPrecompute_holds (fun _ h => by cases h) (by kernel_rfl) (fun _ h => by cases h) fnPrecompute_row_tie rfl ⟨rfl, rfl⟩ (by kernel_rfl) rfl
    (fun f fn hf hfn => by
      obtain rfl : f = 4 := Option.some.inj ((show Tryd.prog.funcNamed "loop.example/pub-g03045/laws.FnPrecompute" = some 4 by kernel_rfl).symm.trans hf) |>.symm
      obtain rfl : fn = Tryd.f4 := (Option.some.inj (Tryd.func4.symm.trans hfn)).symm
      exact ⟨by kernel_rfl, fun j t ht => by
        rw [Tryd.params4] at ht
        have h3 : t = 22 := by
          rcases j with _ | _ | j
          · simpa using ht.symm
          · simpa using ht.symm
          · simp at ht
        subst h3
        exact (show Tryd.prog.wantsStandIn 22 = false by kernel_rfl)⟩)
    (by kernel_rfl)
end Go.Proofs.YtnloecdkogckiaaDoor
