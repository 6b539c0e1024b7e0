/- FnPrecompute: for every input the law returns true; the card. Conditions: none. -/
import Derived.Test.YtbkobeclkeojoaaGreatDoorRows
import Derived.Test.YtbkobeclkeojoaaGreatDoorCards
import Derived.Test.YtbkobeclkeojoaaGreatDoorTie
import Derived.Test.YtbkobeclkeojoaaGreatDoorY1
import Derived.WalkKit
import Derived.ProofKit
import Derived.OpenShut
import Derived.Handed
import Derived.LaidMore
import Derived.Deep.Fields
import Derived.SevenTiedAt
set_option linter.unusedVariables false
set_option maxRecDepth 1000000
namespace Go.Proofs.YtbkobeclkeojoaaGreatDoor
open Go.ChangeShapes Go.WideShapes Go.ChangeAt Go.RowKit Go.Deep

theorem own : ownKnob Tryz.prog.godebug = none := by kernel_rfl
theorem laidOut : laidOutB Tryz.prog = true := by kernel_rfl
theorem gFe : Tryz.prog.globalNamed "loop.example/pub-g03045/pub/field.feOne" = some 1 := by kernel_rfl
theorem tFe : (Tryz.prog.globals[1]?).map (·.type) = some 115 := by kernel_rfl
theorem uPtr : Tryz.prog.underlying 115 = some (.pointer 114) := by kernel_rfl
theorem cElt : Tryz.prog.cellsOf 114 = 5 := by kernel_rfl
noncomputable def fsE : Array Field := match Tryz.prog.underlying 114 with
  | some (.struct fs) => fs
  | _ => #[]
theorem uElt : Tryz.prog.underlying 114 = some (.struct fsE) := by kernel_rfl
theorem fsE_all : (List.range 5).all (fun i => match fsE[i]? with | some f => f.offset == i && f.type == 41 | none => false) = true := by kernel_rfl
theorem fsE_size : fsE.size = 5 := by kernel_rfl
theorem fsE_at {i : Nat} {f : Field} (h : fsE[i]? = some f) : i < 5 ∧ f.offset = i ∧ f.type = 41 := by
  have hi : i < 5 := fsE_size ▸ (Array.getElem?_eq_some_iff.1 h).1
  have := List.all_eq_true.1 fsE_all i (List.mem_range.2 hi)
  rw [h] at this
  simp only [Bool.and_eq_true, beq_iff_eq] at this
  exact ⟨hi, this⟩
theorem fsE_get {i : Nat} (hi : i < 5) : ∃ f, fsE[i]? = some f := ⟨fsE[i]'(by rw [fsE_size]; exact hi), Array.getElem?_eq_getElem (by rw [fsE_size]; exact hi)⟩
theorem u64T : Tryz.prog.underlying 41 = some (.int .u64) := by kernel_rfl
theorem c64T : Tryz.prog.cellsOf 41 = 1 := by kernel_rfl

/-- what the condition gives the walk: the variable's cell, and the cells behind it -/
theorem of_fe {W : World} {r : List (String × DataW Unit)} {ps : List MemPlace} (h : DataW.LaidVars Tryz.prog W (("loop.example/pub-g03045/pub/field.feOne", Rows.laid_loop_example_pub_g03045_pub_field_feOne) :: r) ps) :
    ∃ b o, W.cell? ⟨1, 0, none⟩ = some (.pointer (some ⟨b, o, none⟩)) ∧ ∀ j, j < 5 → W.cell? ⟨b, o + j, none⟩ = some (.int .u64 ((Sx.one5.getD j 0).toNat : Int)) := by
  obtain ⟨g, t, cs, f, p, q, hg, ht, hv, hd, _, _⟩ := h
  obtain rfl := Option.some.inj (gFe.symm.trans hg)
  obtain rfl := Option.some.inj (tFe.symm.trans ht)
  rcases open_ptr_fields uPtr uElt (fun i f hf => ⟨(fsE_at hf).2.1, by rw [(fsE_at hf).2.2]; exact c64T⟩) (by rw [fsE_size]; exact cElt) (by rw [fsE_size]; decide) hd with ⟨_, hx⟩ | ⟨b, o, n, V, Y, hcs, _, hx, hf⟩
  · cases hx
  have hc0 := World.var?_cell hg hv 0
  rw [Array.eq_one_of_toList hcs] at hc0
  refine ⟨b, o, by simpa using hc0, fun j hj => ?_⟩
  obtain ⟨f, hfj⟩ := fsE_get hj
  obtain ⟨h1, h2⟩ := hf j f hfj
  rw [(fsE_at hfj).2.2] at h2
  obtain ⟨m, e1, e2, _⟩ := DataW.trod_int u64T h2
  rw [h1]
  have e3 : V j = .int .u64 m := by simpa using e1
  rw [e3]
  have hx1 := congrArg Prod.fst hx
  rw [fsE_size] at hx1
  have hx2 : ([.lit (.int .u64 1), .lit (.int .u64 0), .lit (.int .u64 0), .lit (.int .u64 0), .lit (.int .u64 0)] : List (DataW Unit)) = (List.range 5).map fun i => (Y i).1 := by
    have : (DataW.ptr (.agg [.lit (.int .u64 1), .lit (.int .u64 0), .lit (.int .u64 0), .lit (.int .u64 0), .lit (.int .u64 0)]) : DataW Unit) = .ptr (.agg ((List.range 5).map fun i => (Y i).1)) := hx1
    simpa only [DataW.ptr.injEq, DataW.agg.injEq] using this
  have hx3 := congrArg (fun l => l[j]?) hx2
  simp only [List.getElem?_map, List.getElem?_range hj, Option.map_some, e2] at hx3
  have : ∀ j m, j < 5 → ([.lit (.int .u64 1), .lit (.int .u64 0), .lit (.int .u64 0), .lit (.int .u64 0), .lit (.int .u64 0)] : List (DataW Unit))[j]? = some (.lit (.int .u64 m)) → m = ((Sx.one5.getD j 0).toNat : Int) := by
    intro j m hj h
    match j, hj with
    | 0, _ => cases h; rfl
    | 1, _ => cases h; rfl
    | 2, _ => cases h; rfl
    | 3, _ => cases h; rfl
    | 4, _ => cases h; rfl
  rw [this j m hj hx3]
end Go.Proofs.YtbkobeclkeojoaaGreatDoor
