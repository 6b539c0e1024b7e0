/- A law's arguments: slices of ints beside slices of bytes. Conditions: none; plain definitions and theorems over any program. -/
import Derived.Test.YtnloecdkogckiaaDoorSx35
set_option linter.unusedVariables false
namespace Go.Sx
open Go.RowKit Go.ChangeShapes Go.WideShapes

section
variable {H : Type} {enc : TypeId × Value → H} {P : Program} {W : World} {base : Nat} {held : Bool}

/-- where a slice lies -/
structure LiesD (W : World) (v : Value) (d : SegD) (loc : Loc) : Prop where
  val : ∀ (ρ : Env) (k : Nat), ρ k = loc → v = (SV.one (.s (.osl k d.len))).den ρ
  cap : d.len ≤ loc.cap
  max : loc.cap ≤ maxLen
  nil : loc.isNil = true → loc.cap = 0
  cell : ∀ (ρ : Env) j x, d.scs[j]? = some x → W.cell? ⟨loc.blk, loc.off + j, none⟩ = some (x.den ρ)
  lt : ∀ n, d.lt n = true

theorem Lies.toD {v : Value} {l : List (BitVec 8)} {loc : Loc} (h : Lies W v l loc) : LiesD W v (.d8 l) loc :=
  ⟨h.val, h.cap, h.max, h.nil, fun ρ j x hx => by
    simp only [SegD.scs, List.getElem?_map, Option.map_eq_some_iff] at hx
    obtain ⟨z, hz, rfl⟩ := hx
    exact h.cell j z hz, fun n => rfl⟩

/-- a slice of ints -/
theorem openSlcI {t e : TypeId} {r : Reach} {b0 : Nat} {v : Value} {d : DataW H} {ps : List MemPlace} (ht : P.underlying t = some (.slice e)) (he : P.underlying e = some (.int .i64)) (hc : P.cellsOf e = 1)
    (hval : Value.okWide P W r b0 t v) (hd : DataW.Trod enc P W base (fun _ => true) held t v d ps) : ∃ (l : List Int) (loc : Loc), LiesD W v (.di l) loc := by
  obtain ⟨fuel, hf⟩ := hd
  have hv : Cell.ok P W r b0 t v := by
    simp only [Value.okWide, ht, Cell.okWide] at hval
    exact hval
  have one : v.cells.toList = [v] := by
    simp only [Cell.ok, ht] at hv
    cases v <;> first | rfl | (split at hv <;> simp_all)
  rw [one] at hf
  rcases open_ints ht he hc hf with ⟨h1, _⟩ | ⟨a, len, cap, zs, h1, _, hl, hm, hz, _, hcell, hw⟩
  · simp only [List.cons.injEq, and_true] at h1
    subst h1
    exact ⟨[], ⟨0, 0, 0, true⟩, fun ρ k hk => by simp [SV.den, SV0.den, Sc.den, hk, SegD.len], by simp [SegD.len], by simp [maxLen], fun _ => rfl, fun ρ j x hx => by simp [SegD.scs] at hx, fun n => rfl⟩
  · simp only [List.cons.injEq, and_true] at h1
    subst h1
    simp only [if_true] at hz
    have hsp : a.spot = none := by
      simp only [Cell.ok, ht] at hv
      exact hv.2.2.2.1
    obtain ⟨b, o, s⟩ := a
    simp only at hsp
    subst hsp
    have hlen : (zs.take len).length = len := by simp; omega
    refine ⟨zs.take len, ⟨b, o, cap, false⟩, fun ρ k hk => ?_, by show (zs.take len).length ≤ cap; omega, hm, fun h => (by cases h), fun ρ j x hx => ?_, fun n => rfl⟩
    · simp only [SV.den, SV0.den, Sc.den, hk, SegD.len, hlen]
      rfl
    · simp only [SegD.scs, List.getElem?_map, Option.map_eq_some_iff] at hx
      obtain ⟨n, hn, rfl⟩ := hx
      have hj : j < (zs.take len).length := (List.getElem?_eq_some_iff.1 hn).1
      rw [List.length_take] at hj
      rw [List.getElem?_take, if_pos (by omega)] at hn
      have := hcell j (by omega)
      rw [add_none] at this
      simpa [List.getD, hn, Sc.den] using this

def segsD (ds : List SegD) : List Seg := ds.map fun d => ⟨d.len, d, false, false, false⟩

theorem memD {ng : Nat} {lls : List (SegD × Loc)} (h : ∀ x ∈ lls, ∃ v, LiesD W v x.1 x.2) :
    MemOk W.heap.size ng (envL ng (lls.map (·.2))) (addM ng (segsD (lls.map (·.1))) []) (ng + lls.length) W := by
  have get : ∀ k s, find (addM ng (segsD (lls.map (·.1))) []) k = some s → ng ≤ k ∧ k < ng + lls.length ∧ ∃ x, lls[k - ng]? = some x ∧ s = ⟨x.1.len, x.1, false, false, false⟩ := by
    intro k s hk
    rw [find_addM] at hk
    by_cases hr : ng ≤ k ∧ k < ng + (segsD (lls.map (·.1))).length
    · rw [if_pos hr] at hk
      have hl : (segsD (lls.map (·.1))).length = lls.length := by simp [segsD]
      simp only [segsD, List.map_map, List.getElem?_map, Option.map_eq_some_iff] at hk
      obtain ⟨x, hx, rfl⟩ := hk
      exact ⟨hr.1, by omega, x, hx, rfl⟩
    · rw [if_neg hr] at hk; cases hk
  have loc : ∀ k x, ng ≤ k → lls[k - ng]? = some x → envL ng (lls.map (·.2)) k = x.2 := by
    intro k x hk hx
    unfold envL
    rw [if_neg (by omega)]
    simp [List.getD, hx]
  refine ⟨fun k s hk => (get k s hk).2.1, fun k s hk => ?_, fun k k' s s' hk hk' _ ho => ?_, Nat.le_refl _, fun g hg => ?_, by omega, fun k s hk => ?_⟩
  · obtain ⟨h1, h2, x, hx, rfl⟩ := get k s hk
    obtain ⟨v, hv⟩ := h x (List.mem_of_getElem? hx)
    have e := loc k x h1 hx
    refine ⟨fun a => (by cases a), fun _ => rfl, by rw [e]; exact hv.cap, by rw [e]; exact hv.nil, fun j y hy => ?_, fun a => (by cases a), fun a => (by cases a), fun _ a => (by cases a)⟩
    rw [e]
    exact hv.cell _ j y hy
  · obtain ⟨_, _, x, _, rfl⟩ := get k s hk
    obtain ⟨_, _, y, _, rfl⟩ := get k' s' hk'
    rcases ho with ho | ho <;> cases ho
  · unfold envL; rw [if_pos hg]; exact ⟨rfl, rfl⟩
  · obtain ⟨_, _, x, hx, rfl⟩ := get k s hk
    obtain ⟨v, hv⟩ := h x (List.mem_of_getElem? hx)
    exact ⟨hv.lt _, fun a => by cases a⟩

/-- a law's call, from its contract -/
theorem lawCallD {ng : Nat} {f : FuncId} {args : List SV} {lls : List (SegD × Loc)} (h : ∀ x ∈ lls, ∃ v, LiesD W v x.1 x.2) {e : Ef} (hv : e.v = .one (.s (.b true)))
    (hf : FnE P W.heap.size ng f args (addM ng (segsD (lls.map (·.1))) []) (ng + lls.length) e) {vs : Array Value} (hvs : vs.toList = args.map (SV.den (envL ng (lls.map (·.2))))) :
    Calls P f vs W fun en W' => en = .returned (.bool true) ∧ Below W.heap.size W W' := by
  have := hf.2 _ W (memD (W := W) (ng := ng) h)
  rw [← hvs] at this
  refine this.mono fun en W' ⟨ρ', he, hp⟩ => ⟨?_, hp.frame.below⟩
  rw [he, hv]; rfl
end

section
variable {P : Program} {B : Nat} {cx : Cx} {sz : Nat} {R : Ex → St → Prop} {s : St} {l : List Code} {base : Nat}

/-- a slice looked at under a key of its own -/
theorem Tri.view {k d n : Nat} {g : Seg} (hk : find s.m k = some g) (hd : find s.t d = some (.one (.s (.osl k n)))) (hn : n ≤ g.d.len)
    (h : Tri P B cx sz base l ⟨(d, .one (.s (.osl s.nx n))) :: s.t, (s.nx, ⟨n, g.d.sub 0 n, false, false, false⟩) :: (k, { g with own := false }) :: delM s.m k, s.nx + 1⟩ R) : Tri P B cx sz base l s R := by
  intro hng hbs ρ a w hok
  have hsk := hok.mem.segs k g hk
  have hcap := hsk.cap
  have p1 := PostM.give hok.mem hk
  have p2 := PostM.view (s := { g with own := false }) p1.ok (k := k) (by simp [find_cons]) rfl (l := 0) (n := n) (by show 0 + n ≤ g.d.len; omega) (ρ k) (fun _ => ⟨rfl, rfl⟩) (by omega) hsk.nil
  have hp := p1.trans p2
  have hok2 := hok.post hp
  refine wpCs_mono (fun e a2 w2 q => Fin.of_later (hp.low hbs) (Nat.le_refl _) q) _ a w (h hng (by show base ≤ s.nx + 1; omega) (envN s.nx ρ (ρ k)) a w ⟨⟨fun i v hv => ?_, fun i v hv => ?_⟩, hok2.size, hok2.mem, hok2.noDefer⟩)
  · rw [find_cons] at hv
    by_cases e : d = i
    · rw [if_pos e] at hv
      cases hv
      subst e
      rw [hok.tm.val d _ hd]
      simp [SV.den, SV0.den, Sc.den, envN_at]
    · rw [if_neg e] at hv; exact hok2.tm.val i v hv
  · rw [find_cons] at hv
    by_cases e : d = i
    · rw [if_pos e] at hv; cases hv; simp [SV.lt, SV0.lt, Sc.lt]
    · rw [if_neg e] at hv; exact hok2.tm.wf i v hv
end
end Go.Sx
