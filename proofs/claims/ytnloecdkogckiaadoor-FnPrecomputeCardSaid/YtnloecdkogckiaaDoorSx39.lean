/- A law's call where package-level variables hold known data; what is owed behind it. Conditions: none; plain definitions and theorems over any program. -/
import Derived.Test.YtnloecdkogckiaaDoorSx38
import Derived.ChangeVars
import Derived.WalkSmall
set_option linter.unusedVariables false
namespace Go.Sx
open Go.RowKit Go.ChangeShapes Go.WideShapes

/-- what a piece that nothing writes must be -/
structure SegRo (ρ : Env) (nx : Nat) (k : Nat) (s : Seg) (W : World) : Prop where
  own : s.own = false
  grow : s.grow = false
  nxt : s.nxt = false
  len : s.d.len = s.n
  cap : s.d.len ≤ (ρ k).cap
  nil : (ρ k).isNil = true → (ρ k).cap = 0
  cell : ∀ j x, s.d.scs[j]? = some x → W.cell? ⟨(ρ k).blk, (ρ k).off + j, none⟩ = some (x.den ρ)
  lt : k < nx
  flat : s.d.lt nx = true
theorem memG {ng nx : Nat} {m : Mem} {ρ : Env} {W : World} (h : ∀ k s, find m k = some s → SegRo ρ nx k s W) (hg : ∀ g, g < ng → (ρ g).blk = g ∧ (ρ g).off = 0) (hn : ng ≤ nx) : MemOk W.heap.size ng ρ m nx W := by
  refine ⟨fun k s hk => (h k s hk).lt, fun k s hk => ?_, fun k k' s s' hk hk' _ ho => ?_, Nat.le_refl _, hg, hn, fun k s hk => ⟨(h k s hk).flat, fun a => (by rw [(h k s hk).nxt] at a; cases a)⟩⟩
  · have H := h k s hk
    refine ⟨fun a => (by rw [H.own] at a; cases a), fun _ => H.len, H.cap, H.nil, H.cell, fun a => (by rw [H.own] at a; cases a), fun a => (by rw [H.nxt] at a; cases a), fun a => (by rw [H.grow] at a; cases a)⟩
  · rcases ho with ho | ho
    · rw [(h k s hk).own] at ho; cases ho
    · rw [(h k' s' hk').own] at ho; cases ho
/-- a law's call, from its contract -/
theorem lawCallG {P : Program} {W : World} {ng nx : Nat} {f : FuncId} {args : List SV} {m : Mem} {ρ : Env} (hm : MemOk W.heap.size ng ρ m nx W) {e : Ef} (hv : e.v = .one (.s (.b true)))
    (hf : FnE P W.heap.size ng f args m nx e) {vs : Array Value} (hvs : vs.toList = args.map (SV.den ρ)) :
    Calls P f vs W fun en W' => en = .returned (.bool true) ∧ Below W.heap.size W W' := by
  have := hf.2 _ W hm
  rw [← hvs] at this
  refine this.mono fun en W' ⟨ρ', he, hp⟩ => ⟨?_, hp.frame.below⟩
  rw [he, hv]; rfl

section
variable {H : Type} {enc : TypeId × Value → H} {P : Program} {W : World}
theorem trodPtr_below {W' : World} {t e : TypeId} {cs : Array Value} {fuel : Nat} {d : DataW H} {p : List MemPlace} (ht : P.underlying t = some (.pointer e)) (hl : laidOutB P = true) (hr : P.readableRec t = true) (hrow : t < P.types.size)
    (h : DataW.trod enc P W 0 (fun _ => true) true fuel t cs.toList = some (d, p)) (hb : Below W.heap.size W W') (hlt : ∀ x ∈ p, x.block < W.heap.size) :
    ∃ fuel', DataW.trod enc P W' 0 (fun b => decide (b < W.heap.size)) true fuel' t cs.toList = some (d, p) := by
  have one : ∃ v : Value, cs.toList = v.cells.toList := by
    rcases DataW.trod_pointer ht h with ⟨h1, _⟩ | ⟨a, _, _, _, _, h1, _, _, _⟩
    · exact ⟨.pointer none, h1⟩
    · exact ⟨.pointer (some a), h1⟩
  obtain ⟨v, hv⟩ := one
  rw [hv] at h ⊢
  exact Below.trod hl hr hrow ⟨fuel, h⟩ hb hlt
/-- a law's statement, behind the call: one variable is named, and holds what it held -/
theorem lawPostV {s : ChangeSpec} {fn : Func} {ds gs : List (DataW H)} {before : List MemPlace} {args : Array Value} {W' : World} {tb tv te : TypeId} {nm : String} {g : Nat} (hW : DataW.Whole enc P fn.params.toList s.vars false W args.toList ds gs before) (hvars : s.vars = [nm])
    (hs : ∀ g1, s.fn H (ds ++ [g1]) = { results := [.lit (.bool true)], args := ds, vars := [g1] }) (hrt : fn.resultTypes = #[tb]) (htb : P.underlying tb = some .bool) (hl : laidOutB P = true) (hr : ∀ t ∈ fn.params.toList, P.readableRec t = true ∧ t < P.types.size)
    (hgn : P.globalNamed nm = some g) (htv : (P.globals[g]?).map (·.type) = some tv) (htp : P.underlying tv = some (.pointer te)) (hrv : P.readableRec tv = true ∧ tv < P.types.size)
    (hb : Below W.heap.size W W') : s.post enc P fn false true false false W args (.bool true) W' := by
  have hlt : ∀ x ∈ before, x.block < W.heap.size := fun x hx => hW.lt x hx
  have hW' := hW
  obtain ⟨p, q, hA, hV, e, _, _⟩ := hW
  rw [hvars] at hV
  obtain ⟨g', t, cs, fuel, d, p', rfl, h1, h2, h3, h4, h5⟩ := trodVars_one hV
  obtain rfl := Option.some.inj (hgn.symm.trans h1)
  obtain rfl := Option.some.inj (htv.symm.trans h2)
  have hp : ∀ x ∈ p, x.block < W.heap.size := fun x hx => hlt x (by rw [e]; exact List.mem_append_left _ hx)
  have hq : ∀ x ∈ q, x.block < W.heap.size := fun x hx => hlt x (by rw [e]; exact List.mem_append_right _ hx)
  have hp' : ∀ x ∈ p', x.block < W.heap.size := fun x hx => hq x (by rw [h5]; exact List.mem_append_right _ hx)
  have gB : g < W.heap.size := by
    simp only [World.var?, hgn, Option.bind_some] at h3
    split at h3
    · rename_i hb
      exact (Array.getElem?_eq_some_iff.1 hb).1
    · cases h3
  obtain ⟨fuel', h6⟩ := trodPtr_below htp hl hrv.1 hrv.2 h4 hb hp'
  refine ⟨ds, [d], before, [], p, q, hW', ?_, ?_, ?_, World.keptBut_mono (fun x f => f.elim) (hb.frame (fun _ => False)), fun h => by cases h⟩
  · rw [hs, hrt]
    exact trodAll_mk1 (shut_bool htb true)
  · rw [hs]
    exact belowAll hl hb hr hA hp
  · rw [hs, hvars, h5]
    exact trodVars_mk1 hgn htv (var?_below hb hgn gB h3) h6
end
end Go.Sx
