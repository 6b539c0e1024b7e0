/- Contracts as plain functions, and the hook made of one. Conditions: none; plain definitions and theorems over any program. -/
import Derived.Test.YtnloecdkogckiaaDoorSx26
set_option linter.unusedVariables false
namespace Go.Sx
open Go.RowKit

/-- how an argument is read: by value; a pointer to n cells of one piece; a slice; a pointer to whole pieces, and the further pieces -/
inductive AM where
  | val
  | ptr (n : Nat) (own : Bool)
  | slc (own : Bool)
  | whole (own nxt : Bool)
  | rest (own nxt : Bool)

/-- what a call comes to: its value, the pieces afterwards, new pieces, what is owed -/
structure Out where
  v : SV
  ds : List SegD
  L : List Seg
  pre : List Prop

/-- how each piece is held -/
def segsOf : List AM → List SegD → List Seg
  | .val :: r, ds => segsOf r ds
  | .ptr _ o :: r, d :: ds => ⟨d.len, d, o, false, false⟩ :: segsOf r ds
  | .slc o :: r, d :: ds => ⟨d.len, d, o, false, false⟩ :: segsOf r ds
  | .whole o x :: r, d :: ds => ⟨d.len, d, o, false, x⟩ :: segsOf r ds
  | .rest o x :: r, d :: ds => ⟨d.len, d, o, false, x⟩ :: segsOf r ds
  | _, _ => []

/-- the arguments at the small memory, keys from k on -/
def canArgs : Nat → List AM → List SV → List SegD → List SV
  | k, .val :: r, v :: vs, ds => v :: canArgs k r vs ds
  | k, .ptr _ _ :: r, vs, _ :: ds => .one (.s (.p k 0)) :: canArgs (k + 1) r vs ds
  | k, .slc _ :: r, vs, d :: ds => .one (.s (.osl k d.len)) :: canArgs (k + 1) r vs ds
  | k, .whole _ _ :: r, vs, _ :: ds => .one (.s (.p k 0)) :: canArgs (k + 1) r vs ds
  | k, .rest _ _ :: r, vs, _ :: ds => canArgs (k + 1) r vs ds
  | _, _, _, _ => []

def globs : List Nat → List SegD → Mem
  | g :: r, d :: ds => (g, ⟨d.len, d, false, false, false⟩) :: globs r ds
  | _, _ => []

/-- a contract: modes, globals that are read, and what it comes to -/
structure Ct where
  md : List AM
  gl : List Nat
  F : List SV → List SegD → List SegD → Option Out

def Ct.Ok (P : Program) (B ng : Nat) (f : FuncId) (c : Ct) : Prop :=
  ∀ vs ds gs out, c.F vs ds gs = some out → (∀ p ∈ out.pre, p) → (∀ d ∈ ds, d.on noKey = true) → FnE P B ng f (canArgs ng c.md vs ds) (addM ng (segsOf c.md ds) (globs c.gl gs)) (ng + (segsOf c.md ds).length)
    ⟨out.v, addM (ng + (segsOf c.md ds).length) out.L (addM ng (segsOf c.md out.ds) (globs c.gl gs)), ng + (segsOf c.md ds).length + out.L.length, .eff, []⟩

/-- the pieces that the arguments name; K is where the last whole piece lies -/
def rdA (cx : Cx) (M : Mem) : Nat → List AM → List SV → Option (List SV × List Pc × List Prop)
  | _, [], [] => some ([], [], [])
  | K, .val :: r, v :: as => bif v.on noKey then (match rdA cx M K r as with
    | some (vs, l, ob) => some (v :: vs, l, ob)
    | none => none) else none
  | K0, .ptr n own :: r, .one (.s (.p K o)) :: as => match find M K with
    | some S => match need cx (o + n ≤ S.d.len) (), rdA cx M K0 r as with
      | some (_, ob0), some (vs, l, ob) => bif !own || (S.own && !S.grow && Nat.ble cx.ng K) then some (vs, ⟨.cut K o n, (S.d.sub o n).len, S.d.sub o n, own, false⟩ :: l, ob0 ++ ob) else none
      | _, _ => none
    | none => none
  | K0, .slc own :: r, .one (.s (.sl K o len cap)) :: as => match find M K with
    | some S => match need cx (o + len ≤ S.d.len ∧ len ≤ cap) (), rdA cx M K0 r as with
      | some (_, ob0), some (vs, l, ob) => bif !own || (S.own && !S.grow && Nat.ble cx.ng K) then some (vs, ⟨.cut K o cap, (S.d.sub o len).len, S.d.sub o len, own, false⟩ :: l, ob0 ++ ob) else none
      | _, _ => none
    | none => none
  | K0, .slc own :: r, .one (.s (.osl K len)) :: as => match find M K with
    | some S => match need cx (len ≤ S.d.len) (), rdA cx M K0 r as with
      | some (_, ob0), some (vs, l, ob) => bif !own || (S.own && !S.grow && Nat.ble cx.ng K) then some (vs, ⟨.osl K, (S.d.sub 0 len).len, S.d.sub 0 len, own, false⟩ :: l, ob0 ++ ob) else none
      | _, _ => none
    | none => none
  | K0, .slc own :: r, .one (.s .sl0) :: as => match rdA cx M K0 r as with
    | some (vs, l, ob) => some (vs, ⟨.nil, 0, .d8 [], own, false⟩ :: l, ob)
    | none => none
  | K0, .whole own nxt :: r, .one (.s (.p K o)) :: as => match find M K with
    | some S => match rdA cx M K r as with
      | some (vs, l, ob) => bif Nat.beq o 0 && Nat.beq S.n S.d.len && (!nxt || S.nxt) && (!own || (S.own && !S.grow && Nat.ble cx.ng K)) then some (vs, ⟨.whole K, S.d.len, S.d, own, nxt⟩ :: l, ob) else none
      | none => none
    | none => none
  | K0, .rest own nxt :: r, as => match find M (K0 + 1) with
    | some S => match rdA cx M (K0 + 1) r as with
      | some (vs, l, ob) => bif Nat.beq S.n S.d.len && (!nxt || S.nxt) && (!own || (S.own && !S.grow && Nat.ble cx.ng (K0 + 1))) then some (vs, ⟨.whole (K0 + 1), S.d.len, S.d, own, nxt⟩ :: l, ob) else none
      | none => none
    | none => none
  | _, _, _ => none

theorem renSc_flat {ng NX : Nat} {l : List Pc} : ∀ {x : Sc}, x.on noKey = true → renSc ng l NX x = some x
  | .b _, _ | .i _, _ | .u8 _, _ | .u32 _, _ | .u64 _, _ | .p0, _ | .sl0, _ | .str _, _ | .f0, _ | .v _, _ => rfl
  | .p k _, hx => by cases hx
  | .sl k _ _ _, hx => by cases hx
  | .osl k _, hx => by cases hx
  | .f _ x, hx => by simp only [renSc, renSc_flat (x := x) hx]

theorem renV0_flat {ng NX : Nat} {l : List Pc} {x : SV0} (hx : x.on noKey = true) : renV0 ng l NX x = some x := by
  cases x with
  | s x => simp only [renV0, renSc_flat (x := x) hx]
  | ag ds =>
    have : ds.all (SegD.on noKey) = true := hx
    simp only [renV0, this, cond_true]

theorem renV0s_flat {ng NX : Nat} {l : List Pc} : ∀ {xs : List SV0}, xs.all (SV0.on noKey) = true → renV0s ng l NX xs = some xs
  | [], _ => rfl
  | x :: r, h => by
    simp only [List.all_cons, Bool.and_eq_true] at h
    simp only [renV0s, renV0_flat h.1, renV0s_flat h.2]

theorem renV_flat {ng NX : Nat} {l : List Pc} {x : SV} (hx : x.on noKey = true) : renV ng l NX x = some x := by
  cases x with
  | one x => simp only [renV, renV0_flat (x := x) hx]
  | tup xs => simp only [renV, renV0s_flat (xs := xs) hx]

structure RdOk (cx : Cx) (M : Mem) (md : List AM) (as vs : List SV) (l : List Pc) : Prop where
  fit : ∀ p ∈ l, p.d.on noKey = true → p.Fit cx.ng M
  segs : l.map Pc.seg = segsOf md (l.map Pc.d)
  ren : ∀ (NX : Nat) (pre : List Pc), renVs cx.ng (pre ++ l) NX (canArgs (cx.ng + pre.length) md vs (l.map Pc.d)) = some as

theorem beq_self' (k ng : Nat) : Nat.blt (ng + k) ng = false := by
  cases h : Nat.blt (ng + k) ng with
  | false => rfl
  | true => have := blt_iff.1 h; omega

theorem ownOk {cx : Cx} {own : Bool} {S : Seg} {K : Nat} (h : (!own || (S.own && !S.grow && Nat.ble cx.ng K)) = true) : own = true → S.own = true ∧ S.grow = false ∧ cx.ng ≤ K := by
  intro ho
  rw [ho] at h
  simp only [Bool.not_true, Bool.false_or, Bool.and_eq_true, Bool.not_eq_true', Nat.ble_eq] at h
  exact ⟨h.1.1, h.1.2, h.2⟩

theorem nxtOk {a b : Bool} (h : (!a || b) = true) (hn : a = true) : b = true := by rw [hn] at h; simpa using h

theorem RdOk.step {cx : Cx} {M : Mem} {p : Pc} {m : AM} {r : List AM} {as vs : List SV} {l : List Pc} {a : SV} (R : RdOk cx M r as vs l) (hfit : p.d.on noKey = true → p.Fit cx.ng M)
    (hseg : segsOf (m :: r) (p.d :: l.map Pc.d) = p.seg :: segsOf r (l.map Pc.d)) (c : Nat → SV) (hcan : ∀ k, canArgs k (m :: r) vs (p.d :: l.map Pc.d) = c k :: canArgs (k + 1) r vs (l.map Pc.d))
    (hren : ∀ NX pre, renV cx.ng (pre ++ p :: l) NX (c (cx.ng + pre.length)) = some a) : RdOk cx M (m :: r) (a :: as) vs (p :: l) := by
  refine ⟨fun q hq hd => ?_, ?_, fun NX pre => ?_⟩
  · rcases List.mem_cons.1 hq with rfl | hq
    · exact hfit hd
    · exact R.fit q hq hd
  · rw [List.map_cons, List.map_cons, hseg, R.segs]
  · rw [List.map_cons, hcan]
    have := R.ren NX (pre ++ [p])
    rw [List.append_assoc, List.length_append] at this
    simp only [List.cons_append, List.nil_append, List.length_cons, List.length_nil] at this
    rw [show cx.ng + (pre.length + (0 + 1)) = cx.ng + pre.length + 1 by omega] at this
    simp only [renVs, hren NX pre, this]

theorem at_pre {α : Type} (pre l : List α) (p : α) (ng : Nat) : (pre ++ p :: l)[ng + pre.length - ng]? = some p := by
  rw [show ng + pre.length - ng = pre.length by omega]
  simp

theorem rdA_spec (cx : Cx) (M : Mem) : ∀ (K0 : Nat) (md : List AM) (as vs : List SV) (l : List Pc) (ob : List Prop), rdA cx M K0 md as = some (vs, l, ob) → (∀ p ∈ ob, p) → RdOk cx M md as vs l := by
  intro K0 md as
  fun_induction rdA cx M K0 md as <;> intro vs l ob h hob <;> first | (cases h; done) | skip
  case case1 => cases h; exact ⟨by simp, rfl, fun _ _ => rfl⟩
  case case2 hv _ _ _ hr ih =>
    cases h
    have R := ih _ _ _ hr hob
    exact ⟨R.fit, R.segs, fun NX pre => by simp only [canArgs, renVs, renV_flat hv, R.ren NX pre]⟩
  case case5 S hS _ _ _ _ _ hr hn ho ih =>
    cases h
    have hl := (need_spec hn fun p hp => hob p (by simp [hp])).2
    have R := ih _ _ _ hr fun p hp => hob p (by simp [hp])
    have hlen := SegD.sub_len S.d _ _ hl
    refine R.step (fun hd => ⟨rfl, hd, rfl, by rw [hlen]; exact Nat.le_refl _, fun _ => ⟨S, hS, by rw [hlen]; exact hl, by rw [hlen], ownOk ho⟩⟩) rfl (fun k => .one (.s (.p k 0))) (fun _ => rfl) fun NX pre => ?_
    simp only [renV, renV0, renSc, beq_self', cond_false, at_pre, Nat.add_zero]
  case case9 S hS _ _ _ _ _ hr hn ho ih =>
    cases h
    have hl := (need_spec hn fun p hp => hob p (by simp [hp])).2
    have R := ih _ _ _ hr fun p hp => hob p (by simp [hp])
    have hlen := SegD.sub_len S.d _ _ hl.1
    refine R.step (fun hd => ⟨rfl, hd, rfl, by rw [hlen]; exact hl.2, fun _ => ⟨S, hS, by rw [hlen]; exact hl.1, by rw [hlen], ownOk ho⟩⟩) rfl (fun k => .one (.s (.osl k (S.d.sub _ _).len))) (fun _ => rfl) fun NX pre => ?_
    simp only [renV, renV0, renSc, beq_self', cond_false, at_pre, hlen]
  case case13 S hS _ _ _ _ _ hr hn ho ih =>
    cases h
    have hl := (need_spec hn fun p hp => hob p (by simp [hp])).2
    have R := ih _ _ _ hr fun p hp => hob p (by simp [hp])
    have hlen := SegD.sub_len S.d 0 _ (by rw [Nat.zero_add]; exact hl)
    refine R.step (fun hd => ⟨rfl, hd, rfl, S, hS, by rw [hlen]; exact hl, by rw [hlen], ownOk ho⟩) rfl (fun k => .one (.s (.osl k (S.d.sub 0 _).len))) (fun _ => rfl) fun NX pre => ?_
    simp only [renV, renV0, renSc, beq_self', cond_false, at_pre, hlen]
  case case17 hr ih =>
    cases h
    have R := ih _ _ _ hr hob
    refine R.step (fun hd => ⟨rfl, hd, rfl, rfl⟩) rfl (fun k => .one (.s (.osl k 0))) (fun _ => rfl) fun NX pre => ?_
    simp only [renV, renV0, renSc, beq_self', cond_false, at_pre]
    rfl
  case case19 S hS _ _ _ hr hc ih =>
    cases h
    simp only [Bool.and_eq_true] at hc
    obtain ⟨⟨⟨c1, c2⟩, c3⟩, c4⟩ := hc
    have o0 := Nat.eq_of_beq_eq_true c1
    subst o0
    have R := ih _ _ _ hr hob
    refine R.step (fun hd => ⟨rfl, hd, S, hS, rfl, rfl, (Nat.eq_of_beq_eq_true c2).symm, fun hn => nxtOk c3 hn, ownOk c4⟩) rfl (fun k => .one (.s (.p k 0))) (fun _ => rfl) fun NX pre => ?_
    simp only [renV, renV0, renSc, beq_self', cond_false, at_pre]
  case case23 K1 own1 nxt1 _ _ S hS _ _ _ hr hc ih =>
    cases h
    simp only [Bool.and_eq_true] at hc
    obtain ⟨⟨c2, c3⟩, c4⟩ := hc
    have R := ih _ _ _ hr hob
    refine ⟨fun q hq hd => ?_, ?_, fun NX pre => ?_⟩
    · rcases List.mem_cons.1 hq with rfl | hq
      · exact ⟨rfl, hd, S, hS, rfl, rfl, (Nat.eq_of_beq_eq_true c2).symm, fun hn => nxtOk c3 hn, ownOk c4⟩
      · exact R.fit q hq hd
    · rw [List.map_cons, List.map_cons, R.segs]; rfl
    · rw [List.map_cons]
      have := R.ren NX (pre ++ [⟨.whole (K1 + 1), S.d.len, S.d, own1, nxt1⟩])
      rw [List.append_assoc, List.length_append] at this
      simp only [List.cons_append, List.nil_append, List.length_cons, List.length_nil] at this
      rw [show cx.ng + (pre.length + (0 + 1)) = cx.ng + pre.length + 1 by omega] at this
      exact this

end Go.Sx
