/- A contract proved at a small memory, used at a larger one: values renamed, and the theorem. Contracts as plain functions, and the hook made of one. The hook made of a contract, and a table of hooks. Lists of known length, cell by cell. Conditions: none; plain definitions and theorems over any program. -/
import Derived.Test.YtamohebdaifjbaaSx22
set_option linter.unusedVariables false
namespace Go.Sx
open Go.RowKit

def renSc (ng : Nat) (l : List Pc) (NX : Nat) : Sc → Option Sc
  | .p k o => bif Nat.blt k ng then some (.p k o) else (match l[k - ng]? with
    | some p => (match p.vw with
      | .cut K o' _ => some (.p K (o' + o))
      | .whole K => some (.p K o)
      | _ => none)
    | none => some (.p (NX + (k - (ng + l.length))) o))
  | .sl k o len cap => bif Nat.blt k ng then none else (match l[k - ng]? with
    | some p => (match p.vw with
      | .cut K o' _ => some (.sl K (o' + o) len cap)
      | .whole K => some (.sl K o len cap)
      | _ => none)
    | none => some (.sl (NX + (k - (ng + l.length))) o len cap))
  | .osl k len => bif Nat.blt k ng then none else (match l[k - ng]? with
    | some p => (match p.vw with
      | .cut K o' cap => some (.sl K o' len cap)
      | .osl K => some (.osl K len)
      | .nil => bif Nat.beq len 0 then some .sl0 else none
      | .whole _ => none)
    | none => some (.osl (NX + (k - (ng + l.length))) len))
  | .f t x => match renSc ng l NX x with
    | some y => some (.f t y)
    | none => none
  | .mv t x => match renSc ng l NX x with
    | some y => some (.mv t y)
    | none => none
  | x => some x

def renV0 (ng : Nat) (l : List Pc) (NX : Nat) : SV0 → Option SV0
  | .s x => match renSc ng l NX x with
    | some y => some (.s y)
    | none => none
  | .ag ds => bif ds.all (SegD.on noKey) then some (.ag ds) else none

def renV0s (ng : Nat) (l : List Pc) (NX : Nat) : List SV0 → Option (List SV0)
  | [] => some []
  | x :: r => match renV0 ng l NX x, renV0s ng l NX r with
    | some y, some ys => some (y :: ys)
    | _, _ => none

def renV (ng : Nat) (l : List Pc) (NX : Nat) : SV → Option SV
  | .one x => match renV0 ng l NX x with
    | some y => some (.one y)
    | none => none
  | .tup xs => match renV0s ng l NX xs with
    | some ys => some (.tup ys)
    | none => none

def renVs (ng : Nat) (l : List Pc) (NX : Nat) : List SV → Option (List SV)
  | [] => some []
  | x :: r => match renV ng l NX x, renVs ng l NX r with
    | some y, some ys => some (y :: ys)
    | _, _ => none

section
variable {ng NX : Nat} {l : List Pc} {ρ ρs : Env}

/-- the two environments say the same of what the views name -/
structure Ren (ng NX : Nat) (l : List Pc) (ρ ρs : Env) : Prop where
  le : ng ≤ NX
  lo : ∀ k, k < ng → ρs k = ρ k
  vw : ∀ i p, l[i]? = some p → ρs (ng + i) = p.vw.loc ρ
  key : ∀ p ∈ l, p.vw.isNil = true ∨ p.vw.key < NX

theorem Ren.sc (R : Ren ng NX l ρ ρs) : ∀ {x y : Sc}, renSc ng l NX x = some y → y.den (envB (ng + l.length) NX ρ ρs) = x.den ρs := by
  have lo : ∀ k, k < NX → envB (ng + l.length) NX ρ ρs k = ρ k := fun k hk => by simp [envB, hk]
  have hi : ∀ k, envB (ng + l.length) NX ρ ρs (NX + (k - (ng + l.length))) = ρs (ng + l.length + (k - (ng + l.length))) := fun k => by
    unfold envB
    rw [if_neg (by omega), show NX + (k - (ng + l.length)) - NX = k - (ng + l.length) by omega]
  have out : ∀ k, ng ≤ k → l[k - ng]? = none → envB (ng + l.length) NX ρ ρs (NX + (k - (ng + l.length))) = ρs k := by
    intro k hk hn
    rw [hi, show ng + l.length + (k - (ng + l.length)) = k by have := List.getElem?_eq_none_iff.1 hn; omega]
  have inn : ∀ k p, ng ≤ k → l[k - ng]? = some p → ρs k = p.vw.loc ρ := by
    intro k p hk hp
    have := R.vw _ p hp
    rw [show ng + (k - ng) = k by omega] at this
    exact this
  intro x
  induction x with
  | p k o =>
    intro y h
    simp only [renSc] at h
    cases hb : Nat.blt k ng with
    | true =>
      rw [hb, cond_true] at h
      cases h
      have hk := blt_iff.1 hb
      simp only [Sc.den]
      rw [lo k (Nat.lt_of_lt_of_le hk R.le), R.lo k hk]
    | false =>
      rw [hb, cond_false] at h
      have hk : ng ≤ k := by rcases Nat.lt_or_ge k ng with h1 | h1; (rw [blt_iff.2 h1] at hb; cases hb); exact h1
      split at h
      · rename_i p hp
        have e := inn k p hk hp
        have hkey := R.key p (List.mem_of_getElem? hp)
        split at h <;> first | (cases h; done) | skip
        · rename_i K o' cap hv
          cases h
          rw [hv] at e hkey
          rcases hkey with h1 | h1
          · cases h1
          · simp only [Sc.den]
            rw [lo K h1, e]
            simp only [Vw.loc]
            rw [Nat.add_assoc]
        · rename_i K hv
          cases h
          rw [hv] at e hkey
          rcases hkey with h1 | h1
          · cases h1
          · simp only [Sc.den]
            rw [lo K h1, e]
            rfl
      · rename_i hn
        cases h
        simp only [Sc.den]
        rw [out k hk hn]
  | sl k o len cap =>
    intro y h
    simp only [renSc] at h
    cases hb : Nat.blt k ng with
    | true => rw [hb] at h; cases h
    | false =>
      rw [hb, cond_false] at h
      have hk : ng ≤ k := by rcases Nat.lt_or_ge k ng with h1 | h1; (rw [blt_iff.2 h1] at hb; cases hb); exact h1
      split at h
      · rename_i p hp
        have e := inn k p hk hp
        have hkey := R.key p (List.mem_of_getElem? hp)
        split at h <;> first | (cases h; done) | skip
        · rename_i K o' cap' hv
          cases h
          rw [hv] at e hkey
          rcases hkey with h1 | h1
          · cases h1
          · simp only [Sc.den]
            rw [lo K h1, e]
            simp only [Vw.loc]
            rw [Nat.add_assoc]
        · rename_i K hv
          cases h
          rw [hv] at e hkey
          rcases hkey with h1 | h1
          · cases h1
          · simp only [Sc.den]
            rw [lo K h1, e]
            rfl
      · rename_i hn
        cases h
        simp only [Sc.den]
        rw [out k hk hn]
  | osl k len =>
    intro y h
    simp only [renSc] at h
    cases hb : Nat.blt k ng with
    | true => rw [hb] at h; cases h
    | false =>
      rw [hb, cond_false] at h
      have hk : ng ≤ k := by rcases Nat.lt_or_ge k ng with h1 | h1; (rw [blt_iff.2 h1] at hb; cases hb); exact h1
      split at h
      · rename_i p hp
        have e := inn k p hk hp
        have hkey := R.key p (List.mem_of_getElem? hp)
        split at h <;> first | (cases h; done) | skip
        · rename_i K o' cap' hv
          cases h
          rw [hv] at e hkey
          rcases hkey with h1 | h1
          · cases h1
          · simp only [Sc.den]
            rw [lo K h1, e]
            simp [Vw.loc]
        · rename_i K hv
          cases h
          rw [hv] at e hkey
          rcases hkey with h1 | h1
          · cases h1
          · simp only [Sc.den]
            rw [lo K h1, e]
            rfl
        · rename_i hv
          cases hl : Nat.beq len 0 with
          | false => rw [hl] at h; cases h
          | true =>
            rw [hl, cond_true] at h
            cases h
            have := Nat.eq_of_beq_eq_true hl
            subst this
            rw [hv] at e
            simp [Sc.den, e, Vw.loc]
      · rename_i hn
        cases h
        simp only [Sc.den]
        rw [out k hk hn]
  | f t x ih =>
    intro y h
    simp only [renSc] at h
    split at h <;> first | (cases h; done) | skip
    rename_i z hz
    cases h
    simp only [Sc.den]
    rw [ih hz]
  | mv t x ih =>
    intro y h
    simp only [renSc] at h
    split at h <;> first | (cases h; done) | skip
    rename_i z hz
    cases h
    simp only [Sc.den]
    rw [ih hz]
  | _ => intro y h; cases h; rfl

theorem Ren.v0 (R : Ren ng NX l ρ ρs) {x y : SV0} (h : renV0 ng l NX x = some y) : y.den (envB (ng + l.length) NX ρ ρs) = x.den ρs := by
  cases x with
  | s x =>
    simp only [renV0] at h
    split at h <;> first | (cases h; done) | skip
    rename_i z hz
    cases h
    exact R.sc hz
  | ag ds =>
    simp only [renV0] at h
    cases hb : ds.all (SegD.on noKey) with
    | false => rw [hb] at h; cases h
    | true =>
      rw [hb, cond_true] at h
      cases h
      exact SV0.on_congr (p := noKey) (fun k hk => by cases hk) hb

theorem Ren.v0s (R : Ren ng NX l ρ ρs) : ∀ {xs ys : List SV0}, renV0s ng l NX xs = some ys → ys.map (SV0.den (envB (ng + l.length) NX ρ ρs)) = xs.map (SV0.den ρs)
  | [], ys, h => by cases h; rfl
  | x :: r, ys, h => by
    simp only [renV0s] at h
    split at h <;> first | (cases h; done) | skip
    rename_i y yr h1 h2
    cases h
    simp [R.v0 h1, R.v0s h2]

theorem Ren.v (R : Ren ng NX l ρ ρs) {x y : SV} (h : renV ng l NX x = some y) : y.den (envB (ng + l.length) NX ρ ρs) = x.den ρs := by
  cases x with
  | one x =>
    simp only [renV] at h
    split at h <;> first | (cases h; done) | skip
    rename_i z hz
    cases h
    exact R.v0 hz
  | tup xs =>
    simp only [renV] at h
    split at h <;> first | (cases h; done) | skip
    rename_i z hz
    cases h
    simp only [SV.den]
    rw [R.v0s hz]

theorem Ren.vs (R : Ren ng NX l ρ ρs) : ∀ {xs ys : List SV}, renVs ng l NX xs = some ys → ys.map (SV.den (envB (ng + l.length) NX ρ ρs)) = xs.map (SV.den ρs)
  | [], ys, h => by cases h; rfl
  | x :: r, ys, h => by
    simp only [renVs] at h
    split at h <;> first | (cases h; done) | skip
    rename_i y yr h1 h2
    cases h
    simp [R.v h1, R.vs h2]

end

/-- **A CONTRACT LIFTED.** -/
theorem FnE.lift {P : Program} {B ng NX : Nat} {f : FuncId} {args ARGS : List SV} {v V : SV} {L : List Seg} {ds : List SegD} {l : List Pc} {mG M M1 : Mem} {c c' : K4} {ob ob' : List Prop}
    (hG : ∀ k s, find mG k = some s → k < ng ∧ find M k = some s ∧ s.own = false ∧ s.d.lt ng = true ∧ s.nxt = false) (hfit : ∀ p ∈ l, p.Fit ng M) (hch : Chain l) (hap : Apt l = true) (hkey : ∀ p ∈ l, p.vw.isNil = true ∨ p.vw.key < NX)
    (hlen : l.length = ds.length) (hds : ∀ (i : Nat) (p : Pc) (d : SegD), l[i]? = some p → ds[i]? = some d → d.len = p.n ∧ d.on noKey = true) (hL : ∀ s ∈ L, s.own = true ∧ s.d.on noKey = true) (hup : upM M l ds = some M1)
    (hargs : renVs ng l NX args = some ARGS) (hAlt : ARGS.all (SV.lt NX) = true) (hv : renV ng l NX v = some V)
    (small : FnE P B ng f args (smallM ng l mG) (ng + l.length) ⟨v, addM (ng + l.length) L (smallM ng (updP l ds) mG), ng + l.length + L.length, c, ob⟩) :
    FnE P B ng f ARGS M NX ⟨V, addM NX L M1, NX + L.length, c', ob'⟩ := by
  obtain ⟨s1, s2⟩ := small
  refine ⟨s1, fun ρ w hm => ?_⟩
  have hV := View.of hm hG hfit hch hap
  have hkM : ∀ k s, find M k = some s → k < NX ∧ s.d.lt NX = true := fun k s hk => ⟨hm.keys k s hk, (hm.wf k s hk).1⟩
  have hBack := Back.of (NX := NX) hkM (fun k s hk => (hG k s hk).1) hlen hfit hap hds hL hup
  have envAt : ∀ i p, l[i]? = some p → envS ng ρ (locs ng l ρ) (ng + i) = p.vw.loc ρ := by
    intro i p hp
    rw [envS_hi (by omega)]
    simp [locs, show ng + i - ng = i by omega, hp]
  have R0 : Ren ng NX l ρ (envS ng ρ (locs ng l ρ)) := ⟨hm.ng_le, fun k hk => envS_lo hk, envAt, hkey⟩
  have hA : ARGS.map (SV.den ρ) = args.map (SV.den (envS ng ρ (locs ng l ρ))) := by
    rw [← R0.vs hargs]
    refine List.map_congr_left fun x hx => ?_
    exact (SV.den_congr (n := NX) (fun k hk => by simp [envB, hk]) (List.all_eq_true.1 hAlt x hx)).symm
  rw [hA]
  refine (s2 _ w (hV.memOk hm)).mono fun en w' ⟨ρs, he, hp⟩ => ?_
  have R1 : Ren ng NX l ρ ρs := by
    refine ⟨hm.ng_le, fun k hk => by rw [hp.ext k (by omega)]; exact envS_lo hk, fun i p hip => ?_, hkey⟩
    have := (List.getElem?_eq_some_iff.1 hip).1
    rw [hp.ext _ (by omega)]
    exact envAt i p hip
  have hpost := hV.post hm hp hBack
  rw [show ng + l.length + L.length - (ng + l.length) = L.length by omega] at hpost
  exact ⟨_, by rw [he]; exact congrArg _ (R1.v hv).symm, hpost⟩

end Go.Sx

set_option linter.unusedVariables false
namespace Go.Sx
open Go.RowKit

/-- how an argument is read: by value; a pointer to n cells of one piece; a slice; a pointer to whole pieces, and the further pieces -/
inductive AM where
  | val
  | ptr (n : Nat) (own : Bool)
  | slc (own : Bool)
  | whole (own nxt : Bool)
  | rest (own nxt : Bool)

/-- what a call comes to: its value, the pieces afterwards, new pieces, what is owed -/
structure Out where
  v : SV
  ds : List SegD
  L : List Seg
  pre : List Prop

/-- how each piece is held -/
def segsOf : List AM → List SegD → List Seg
  | .val :: r, ds => segsOf r ds
  | .ptr _ o :: r, d :: ds => ⟨d.len, d, o, false, false⟩ :: segsOf r ds
  | .slc o :: r, d :: ds => ⟨d.len, d, o, false, false⟩ :: segsOf r ds
  | .whole o x :: r, d :: ds => ⟨d.len, d, o, false, x⟩ :: segsOf r ds
  | .rest o x :: r, d :: ds => ⟨d.len, d, o, false, x⟩ :: segsOf r ds
  | _, _ => []

/-- the arguments at the small memory, keys from k on -/
def canArgs : Nat → List AM → List SV → List SegD → List SV
  | k, .val :: r, v :: vs, ds => v :: canArgs k r vs ds
  | k, .ptr _ _ :: r, vs, _ :: ds => .one (.s (.p k 0)) :: canArgs (k + 1) r vs ds
  | k, .slc _ :: r, vs, d :: ds => .one (.s (.osl k d.len)) :: canArgs (k + 1) r vs ds
  | k, .whole _ _ :: r, vs, _ :: ds => .one (.s (.p k 0)) :: canArgs (k + 1) r vs ds
  | k, .rest _ _ :: r, vs, _ :: ds => canArgs (k + 1) r vs ds
  | _, _, _, _ => []

def globs : List Nat → List SegD → Mem
  | g :: r, d :: ds => (g, ⟨d.len, d, false, false, false⟩) :: globs r ds
  | _, _ => []

/-- a contract: modes, globals that are read, and what it comes to -/
structure Ct where
  md : List AM
  gl : List Nat
  F : List SV → List SegD → List SegD → Option Out

def Ct.Ok (P : Program) (B ng : Nat) (f : FuncId) (c : Ct) : Prop :=
  ∀ vs ds gs out, c.F vs ds gs = some out → (∀ p ∈ out.pre, p) → (∀ d ∈ ds, d.on noKey = true) → FnE P B ng f (canArgs ng c.md vs ds) (addM ng (segsOf c.md ds) (globs c.gl gs)) (ng + (segsOf c.md ds).length)
    ⟨out.v, addM (ng + (segsOf c.md ds).length) out.L (addM ng (segsOf c.md out.ds) (globs c.gl gs)), ng + (segsOf c.md ds).length + out.L.length, .eff, []⟩

/-- the pieces that the arguments name; K is where the last whole piece lies -/
def rdA (cx : Cx) (M : Mem) : Nat → List AM → List SV → Option (List SV × List Pc × List Prop)
  | _, [], [] => some ([], [], [])
  | K, .val :: r, v :: as => bif v.on noKey then (match rdA cx M K r as with
    | some (vs, l, ob) => some (v :: vs, l, ob)
    | none => none) else none
  | K0, .ptr n own :: r, .one (.s (.p K o)) :: as => match find M K with
    | some S => match need cx (o + n ≤ S.d.len) (), rdA cx M K0 r as with
      | some (_, ob0), some (vs, l, ob) => bif !own || (S.own && !S.grow && Nat.ble cx.ng K) then some (vs, ⟨.cut K o n, (S.d.sub o n).len, S.d.sub o n, own, false⟩ :: l, ob0 ++ ob) else none
      | _, _ => none
    | none => none
  | K0, .slc own :: r, .one (.s (.sl K o len cap)) :: as => match find M K with
    | some S => match need cx (o + len ≤ S.d.len ∧ len ≤ cap) (), rdA cx M K0 r as with
      | some (_, ob0), some (vs, l, ob) => bif !own || (S.own && !S.grow && Nat.ble cx.ng K) then some (vs, ⟨.cut K o cap, (S.d.sub o len).len, S.d.sub o len, own, false⟩ :: l, ob0 ++ ob) else none
      | _, _ => none
    | none => none
  | K0, .slc own :: r, .one (.s (.osl K len)) :: as => match find M K with
    | some S => match need cx (len ≤ S.d.len) (), rdA cx M K0 r as with
      | some (_, ob0), some (vs, l, ob) => bif !own || (S.own && !S.grow && Nat.ble cx.ng K) then some (vs, ⟨.osl K, (S.d.sub 0 len).len, S.d.sub 0 len, own, false⟩ :: l, ob0 ++ ob) else none
      | _, _ => none
    | none => none
  | K0, .slc own :: r, .one (.s .sl0) :: as => match rdA cx M K0 r as with
    | some (vs, l, ob) => some (vs, ⟨.nil, 0, .d8 [], own, false⟩ :: l, ob)
    | none => none
  | K0, .whole own nxt :: r, .one (.s (.p K o)) :: as => match find M K with
    | some S => match rdA cx M K r as with
      | some (vs, l, ob) => bif Nat.beq o 0 && Nat.beq S.n S.d.len && (!nxt || S.nxt) && (!own || (S.own && !S.grow && Nat.ble cx.ng K)) then some (vs, ⟨.whole K, S.d.len, S.d, own, nxt⟩ :: l, ob) else none
      | none => none
    | none => none
  | K0, .rest own nxt :: r, as => match find M (K0 + 1) with
    | some S => match rdA cx M (K0 + 1) r as with
      | some (vs, l, ob) => bif Nat.beq S.n S.d.len && (!nxt || S.nxt) && (!own || (S.own && !S.grow && Nat.ble cx.ng (K0 + 1))) then some (vs, ⟨.whole (K0 + 1), S.d.len, S.d, own, nxt⟩ :: l, ob) else none
      | none => none
    | none => none
  | _, _, _ => none

theorem renSc_flat {ng NX : Nat} {l : List Pc} : ∀ {x : Sc}, x.on noKey = true → renSc ng l NX x = some x
  | .b _, _ | .i _, _ | .u8 _, _ | .u32 _, _ | .u64 _, _ | .p0, _ | .sl0, _ | .str _, _ | .f0, _ | .v _, _ => rfl
  | .p k _, hx => by cases hx
  | .sl k _ _ _, hx => by cases hx
  | .osl k _, hx => by cases hx
  | .f _ x, hx => by simp only [renSc, renSc_flat (x := x) hx]
  | .mv _ x, hx => by simp only [renSc, renSc_flat (x := x) hx]

theorem renV0_flat {ng NX : Nat} {l : List Pc} {x : SV0} (hx : x.on noKey = true) : renV0 ng l NX x = some x := by
  cases x with
  | s x => simp only [renV0, renSc_flat (x := x) hx]
  | ag ds =>
    have : ds.all (SegD.on noKey) = true := hx
    simp only [renV0, this, cond_true]

theorem renV0s_flat {ng NX : Nat} {l : List Pc} : ∀ {xs : List SV0}, xs.all (SV0.on noKey) = true → renV0s ng l NX xs = some xs
  | [], _ => rfl
  | x :: r, h => by
    simp only [List.all_cons, Bool.and_eq_true] at h
    simp only [renV0s, renV0_flat h.1, renV0s_flat h.2]

theorem renV_flat {ng NX : Nat} {l : List Pc} {x : SV} (hx : x.on noKey = true) : renV ng l NX x = some x := by
  cases x with
  | one x => simp only [renV, renV0_flat (x := x) hx]
  | tup xs => simp only [renV, renV0s_flat (xs := xs) hx]

structure RdOk (cx : Cx) (M : Mem) (md : List AM) (as vs : List SV) (l : List Pc) : Prop where
  fit : ∀ p ∈ l, p.d.on noKey = true → p.Fit cx.ng M
  segs : l.map Pc.seg = segsOf md (l.map Pc.d)
  ren : ∀ (NX : Nat) (pre : List Pc), renVs cx.ng (pre ++ l) NX (canArgs (cx.ng + pre.length) md vs (l.map Pc.d)) = some as

theorem beq_self' (k ng : Nat) : Nat.blt (ng + k) ng = false := by
  cases h : Nat.blt (ng + k) ng with
  | false => rfl
  | true => have := blt_iff.1 h; omega

theorem ownOk {cx : Cx} {own : Bool} {S : Seg} {K : Nat} (h : (!own || (S.own && !S.grow && Nat.ble cx.ng K)) = true) : own = true → S.own = true ∧ S.grow = false ∧ cx.ng ≤ K := by
  intro ho
  rw [ho] at h
  simp only [Bool.not_true, Bool.false_or, Bool.and_eq_true, Bool.not_eq_true', Nat.ble_eq] at h
  exact ⟨h.1.1, h.1.2, h.2⟩

theorem nxtOk {a b : Bool} (h : (!a || b) = true) (hn : a = true) : b = true := by rw [hn] at h; simpa using h

theorem RdOk.step {cx : Cx} {M : Mem} {p : Pc} {m : AM} {r : List AM} {as vs : List SV} {l : List Pc} {a : SV} (R : RdOk cx M r as vs l) (hfit : p.d.on noKey = true → p.Fit cx.ng M)
    (hseg : segsOf (m :: r) (p.d :: l.map Pc.d) = p.seg :: segsOf r (l.map Pc.d)) (c : Nat → SV) (hcan : ∀ k, canArgs k (m :: r) vs (p.d :: l.map Pc.d) = c k :: canArgs (k + 1) r vs (l.map Pc.d))
    (hren : ∀ NX pre, renV cx.ng (pre ++ p :: l) NX (c (cx.ng + pre.length)) = some a) : RdOk cx M (m :: r) (a :: as) vs (p :: l) := by
  refine ⟨fun q hq hd => ?_, ?_, fun NX pre => ?_⟩
  · rcases List.mem_cons.1 hq with rfl | hq
    · exact hfit hd
    · exact R.fit q hq hd
  · rw [List.map_cons, List.map_cons, hseg, R.segs]
  · rw [List.map_cons, hcan]
    have := R.ren NX (pre ++ [p])
    rw [List.append_assoc, List.length_append] at this
    simp only [List.cons_append, List.nil_append, List.length_cons, List.length_nil] at this
    rw [show cx.ng + (pre.length + (0 + 1)) = cx.ng + pre.length + 1 by omega] at this
    simp only [renVs, hren NX pre, this]

theorem at_pre {α : Type} (pre l : List α) (p : α) (ng : Nat) : (pre ++ p :: l)[ng + pre.length - ng]? = some p := by
  rw [show ng + pre.length - ng = pre.length by omega]
  simp

theorem rdA_spec (cx : Cx) (M : Mem) : ∀ (K0 : Nat) (md : List AM) (as vs : List SV) (l : List Pc) (ob : List Prop), rdA cx M K0 md as = some (vs, l, ob) → (∀ p ∈ ob, p) → RdOk cx M md as vs l := by
  intro K0 md as
  fun_induction rdA cx M K0 md as <;> intro vs l ob h hob <;> first | (cases h; done) | skip
  case case1 => cases h; exact ⟨by simp, rfl, fun _ _ => rfl⟩
  case case2 hv _ _ _ hr ih =>
    cases h
    have R := ih _ _ _ hr hob
    exact ⟨R.fit, R.segs, fun NX pre => by simp only [canArgs, renVs, renV_flat hv, R.ren NX pre]⟩
  case case5 S hS _ _ _ _ _ hr hn ho ih =>
    cases h
    have hl := (need_spec hn fun p hp => hob p (by simp [hp])).2
    have R := ih _ _ _ hr fun p hp => hob p (by simp [hp])
    have hlen := SegD.sub_len S.d _ _ hl
    refine R.step (fun hd => ⟨rfl, hd, rfl, by rw [hlen]; exact Nat.le_refl _, fun _ => ⟨S, hS, by rw [hlen]; exact hl, by rw [hlen], ownOk ho⟩⟩) rfl (fun k => .one (.s (.p k 0))) (fun _ => rfl) fun NX pre => ?_
    simp only [renV, renV0, renSc, beq_self', cond_false, at_pre, Nat.add_zero]
  case case9 S hS _ _ _ _ _ hr hn ho ih =>
    cases h
    have hl := (need_spec hn fun p hp => hob p (by simp [hp])).2
    have R := ih _ _ _ hr fun p hp => hob p (by simp [hp])
    have hlen := SegD.sub_len S.d _ _ hl.1
    refine R.step (fun hd => ⟨rfl, hd, rfl, by rw [hlen]; exact hl.2, fun _ => ⟨S, hS, by rw [hlen]; exact hl.1, by rw [hlen], ownOk ho⟩⟩) rfl (fun k => .one (.s (.osl k (S.d.sub _ _).len))) (fun _ => rfl) fun NX pre => ?_
    simp only [renV, renV0, renSc, beq_self', cond_false, at_pre, hlen]
  case case13 S hS _ _ _ _ _ hr hn ho ih =>
    cases h
    have hl := (need_spec hn fun p hp => hob p (by simp [hp])).2
    have R := ih _ _ _ hr fun p hp => hob p (by simp [hp])
    have hlen := SegD.sub_len S.d 0 _ (by rw [Nat.zero_add]; exact hl)
    refine R.step (fun hd => ⟨rfl, hd, rfl, S, hS, by rw [hlen]; exact hl, by rw [hlen], ownOk ho⟩) rfl (fun k => .one (.s (.osl k (S.d.sub 0 _).len))) (fun _ => rfl) fun NX pre => ?_
    simp only [renV, renV0, renSc, beq_self', cond_false, at_pre, hlen]
  case case17 hr ih =>
    cases h
    have R := ih _ _ _ hr hob
    refine R.step (fun hd => ⟨rfl, hd, rfl, rfl⟩) rfl (fun k => .one (.s (.osl k 0))) (fun _ => rfl) fun NX pre => ?_
    simp only [renV, renV0, renSc, beq_self', cond_false, at_pre]
    rfl
  case case19 S hS _ _ _ hr hc ih =>
    cases h
    simp only [Bool.and_eq_true] at hc
    obtain ⟨⟨⟨c1, c2⟩, c3⟩, c4⟩ := hc
    have o0 := Nat.eq_of_beq_eq_true c1
    subst o0
    have R := ih _ _ _ hr hob
    refine R.step (fun hd => ⟨rfl, hd, S, hS, rfl, rfl, (Nat.eq_of_beq_eq_true c2).symm, fun hn => nxtOk c3 hn, ownOk c4⟩) rfl (fun k => .one (.s (.p k 0))) (fun _ => rfl) fun NX pre => ?_
    simp only [renV, renV0, renSc, beq_self', cond_false, at_pre]
  case case23 K1 own1 nxt1 _ _ S hS _ _ _ hr hc ih =>
    cases h
    simp only [Bool.and_eq_true] at hc
    obtain ⟨⟨c2, c3⟩, c4⟩ := hc
    have R := ih _ _ _ hr hob
    refine ⟨fun q hq hd => ?_, ?_, fun NX pre => ?_⟩
    · rcases List.mem_cons.1 hq with rfl | hq
      · exact ⟨rfl, hd, S, hS, rfl, rfl, (Nat.eq_of_beq_eq_true c2).symm, fun hn => nxtOk c3 hn, ownOk c4⟩
      · exact R.fit q hq hd
    · rw [List.map_cons, List.map_cons, R.segs]; rfl
    · rw [List.map_cons]
      have := R.ren NX (pre ++ [⟨.whole (K1 + 1), S.d.len, S.d, own1, nxt1⟩])
      rw [List.append_assoc, List.length_append] at this
      simp only [List.cons_append, List.nil_append, List.length_cons, List.length_nil] at this
      rw [show cx.ng + (pre.length + (0 + 1)) = cx.ng + pre.length + 1 by omega] at this
      exact this

end Go.Sx

set_option linter.unusedVariables false
namespace Go.Sx
open Go.RowKit

def rdG (ng : Nat) (M : Mem) : List Nat → Option (List SegD)
  | [] => some []
  | g :: r => match find M g, rdG ng M r with
    | some S, some ds => bif Nat.blt g ng && (!S.own && (!S.grow && (!S.nxt && (Nat.beq S.n S.d.len && S.d.lt ng)))) then some (S.d :: ds) else none
    | _, _ => none

theorem rdG_spec {ng : Nat} {M : Mem} : ∀ {gl : List Nat} {gs : List SegD}, rdG ng M gl = some gs → ∀ k s, find (globs gl gs) k = some s → k < ng ∧ find M k = some s ∧ s.own = false ∧ s.d.lt ng = true ∧ s.nxt = false
  | [], gs, h, k, s, hk => by cases h; cases hk
  | g :: r, gs, h, k, s, hk => by
    simp only [rdG] at h
    split at h <;> first | (cases h; done) | skip
    rename_i S ds hS hds
    cases hb : (Nat.blt g ng && (!S.own && (!S.grow && (!S.nxt && (Nat.beq S.n S.d.len && S.d.lt ng))))) with
    | false => rw [hb] at h; cases h
    | true =>
      rw [hb, cond_true] at h
      cases h
      simp only [Bool.and_eq_true, Bool.not_eq_true', blt_iff] at hb
      obtain ⟨b1, b2, b3, b4, b5, b6⟩ := hb
      simp only [globs] at hk
      rw [find_cons] at hk
      by_cases e : g = k
      · rw [if_pos e] at hk
        cases hk
        subst e
        refine ⟨b1, ?_, rfl, b6, rfl⟩
        rw [hS]
        have b5' := Nat.eq_of_beq_eq_true b5
        cases S
        simp only at b2 b3 b4 b5' ⊢
        subst b2 b3 b4
        rw [b5']
      · rw [if_neg e] at hk
        exact rdG_spec hds k s hk

def chB : List Pc → Bool
  | [] => true
  | p :: r => (!p.nxt || (match r with
    | q :: _ => (match p.vw, q.vw with
      | .whole K, .whole K' => Nat.beq K' (K + 1)
      | _, _ => false)
    | [] => false)) && chB r

theorem chB_spec : ∀ {l : List Pc}, chB l = true → Chain l
  | [], _ => trivial
  | p :: r, h => by
    simp only [chB, Bool.and_eq_true, Bool.or_eq_true, Bool.not_eq_true'] at h
    refine ⟨fun hn => ?_, chB_spec h.2⟩
    rcases h.1 with h1 | h1
    · rw [hn] at h1; cases h1
    · split at h1
      · rename_i q r' 
        split at h1
        · rename_i K K' hp hq
          have := Nat.eq_of_beq_eq_true h1
          subst this
          exact ⟨q, r', rfl, K, hp, hq⟩
        · cases h1
      · cases h1

def kindOf (l : List Pc) (L : List Seg) : K4 := bif l.all (fun p => !p.own) then (match L with
  | [] => .read
  | s :: r => .new (s :: r)) else .eff

def hookOf (cx : Cx) (c : Ct) (args : List SV) (M : Mem) (NX : Nat) : Option Ef :=
  match rdA cx M 0 c.md args with
  | some (vs, l, ob1) => match rdG cx.ng M c.gl with
    | some gs => match c.F vs (l.map Pc.d) gs with
      | some out => match need cx (lensEq (l.map Pc.d) out.ds) (), upM M l out.ds, renV cx.ng l NX out.v with
        | some (_, ob2), some M1, some V => bif (l.all fun p => p.d.on noKey && (p.vw.isNil || Nat.blt p.vw.key NX)) && (out.ds.all (SegD.on noKey) && (out.L.all (fun s => s.own && s.d.on noKey) && (Apt l && (chB l && V.lt (NX + out.L.length))))) then
            some ⟨V, addM NX out.L M1, NX + out.L.length, kindOf l out.L, ob1 ++ (ob2 ++ out.pre)⟩ else none
        | _, _, _ => none
      | none => none
    | none => none
  | none => none

theorem lensEq_len : ∀ {z l : List SegD}, lensEq z l → z.length = l.length ∧ ∀ (i : Nat) (d e : SegD), z[i]? = some d → l[i]? = some e → e.len = d.len
  | [], [], _ => ⟨rfl, fun i d e h => by simp at h⟩
  | z :: zr, d :: dr, h => by
    obtain ⟨h1, h2⟩ := lensEq_len h.2
    refine ⟨by simp [h1], fun i a b ha hb => ?_⟩
    cases i with
    | zero => simp at ha hb; subst ha; subst hb; exact h.1
    | succ i => simp only [List.getElem?_cons_succ] at ha hb; exact h2 i a b ha hb
  | [], _ :: _, h => h.elim
  | _ :: _, [], h => h.elim

theorem upM_read : ∀ {l : List Pc} {ds : List SegD} {M M1 : Mem}, l.all (fun p => !p.own) = true → upM M l ds = some M1 → M1 = M
  | [], [], M, M1, _, h => by cases h; rfl
  | p :: r, d :: dr, M, M1, hl, h => by
    simp only [List.all_cons, Bool.and_eq_true, Bool.not_eq_true'] at hl
    simp only [upM, hl.1, Bool.false_and, cond_false] at h
    exact upM_read (by simpa using hl.2) h
  | [], _ :: _, _, _, _, h => by cases h
  | _ :: _, [], _, _, _, h => by cases h

theorem segsOf_upd : ∀ (md : List AM) (l : List Pc) (ds : List SegD), l.map Pc.seg = segsOf md (l.map Pc.d) → lensEq (l.map Pc.d) ds → (∀ p ∈ l, p.d.len = p.n) → (updP l ds).map Pc.seg = segsOf md ds
  | [], l, ds, h, hl, hn => by
    have : l = [] := by simpa [segsOf] using h
    subst this
    cases ds with
    | nil => rfl
    | cons d dr => exact hl.elim
  | m :: r, l, ds, h, hl, hn => by
    by_cases hm : m = .val
    · subst hm
      simp only [segsOf] at h ⊢
      exact segsOf_upd r l ds h hl hn
    · cases l with
      | nil =>
        cases ds with
        | nil => cases m <;> first | exact absurd rfl hm | rfl
        | cons d dr => exact hl.elim
      | cons p lr =>
        cases ds with
        | nil => exact hl.elim
        | cons d dr =>
          have hp := hn p List.mem_cons_self
          have hd : d.len = p.d.len := hl.1
          have step : ∀ (o x : Bool), p.seg :: lr.map Pc.seg = (⟨p.d.len, p.d, o, false, x⟩ : Seg) :: segsOf r (lr.map Pc.d) → (updP (p :: lr) (d :: dr)).map Pc.seg = (⟨d.len, d, o, false, x⟩ : Seg) :: segsOf r dr := by
            intro o x he
            simp only [List.cons.injEq, Pc.seg, Seg.mk.injEq] at he
            obtain ⟨⟨e1, _, e2, _, e3⟩, e4⟩ := he
            have ih := segsOf_upd r lr dr e4 hl.2 fun q hq => hn q (List.mem_cons_of_mem _ hq)
            simp only [updP, List.map_cons, ih, Pc.seg, e2, e3, hd, hp]
          cases m with
          | val => exact absurd rfl hm
          | ptr n o => exact step o false h
          | slc o => exact step o false h
          | whole o x => exact step o x h
          | rest o x => exact step o x h

theorem hookOf_ok {P : Program} {B : Nat} {cx : Cx} {f : FuncId} {c : Ct} (hc : c.Ok P B cx.ng f) {args : List SV} {M : Mem} {NX : Nat} {e : Ef} (h : hookOf cx c args M NX = some e) (hob : ∀ p ∈ e.ob, p) (hargs : args.all (SV.lt NX) = true) :
    FnOk P B cx.ng f args M NX e ∧ KOk e M NX := by
  unfold hookOf at h
  split at h <;> first | (cases h; done) | skip
  rename_i vs l ob1 hrd
  split at h <;> first | (cases h; done) | skip
  rename_i gs hgs
  split at h <;> first | (cases h; done) | skip
  rename_i out hF
  split at h <;> first | (cases h; done) | skip
  rename_i ob2 M1 V hneed hup hV
  cases hb : ((l.all fun p => p.d.on noKey && (p.vw.isNil || Nat.blt p.vw.key NX)) && (out.ds.all (SegD.on noKey) && (out.L.all (fun s => s.own && s.d.on noKey) && (Apt l && (chB l && V.lt (NX + out.L.length)))))) with
  | false => rw [hb] at h; cases h
  | true =>
    rw [hb, cond_true] at h
    cases h
    simp only [Bool.and_eq_true, List.all_eq_true, Bool.or_eq_true, blt_iff] at hb
    obtain ⟨b1, b2, b3, b4, b5, b6⟩ := hb
    have R := rdA_spec cx M 0 c.md args vs l ob1 hrd fun p hp => hob p (by simp [hp])
    have hlens := (need_spec hneed fun p hp => hob p (by simp [hp])).2
    have hpre : ∀ p ∈ out.pre, p := fun p hp => hob p (by simp [hp])
    obtain ⟨hl1, hl2⟩ := lensEq_len hlens
    rw [List.length_map] at hl1
    have hfit : ∀ p ∈ l, p.Fit cx.ng M := fun p hp => R.fit p hp (b1 p hp).1
    have hsm := hc vs (l.map Pc.d) gs out hF hpre fun d hd => by
      obtain ⟨p, hp, rfl⟩ := List.mem_map.1 hd
      exact (b1 p hp).1
    have hupd := segsOf_upd c.md l out.ds R.segs hlens fun p hp => (hfit p hp).1
    rw [← R.segs, ← hupd, List.length_map] at hsm
    have hren := R.ren NX []
    simp only [List.nil_append, List.length_nil, Nat.add_zero] at hren
    have hE := FnE.lift (c' := kindOf l out.L) (ob' := ob1 ++ (ob2 ++ out.pre)) (mG := globs c.gl gs) (rdG_spec hgs) hfit (chB_spec b5) b4 (fun p hp => (b1 p hp).2) hl1 (fun i p d hp hd => ?_) (fun s hs => b3 s hs) hup hren hargs hV hsm
    · refine ⟨⟨b6, .inl hE⟩, ?_⟩
      unfold KOk kindOf
      cases ha : l.all (fun p => !p.own) with
      | false => exact trivial
      | true =>
        have := upM_read ha hup
        subst this
        rw [cond_true]
        cases out.L with
        | nil => exact ⟨rfl, rfl⟩
        | cons s r => exact ⟨rfl, rfl⟩
    · have h1 : (l.map Pc.d)[i]? = some p.d := by rw [List.getElem?_map, hp]; rfl
      exact ⟨by rw [hl2 i p.d d h1 hd]; exact (hfit p (List.mem_of_getElem? hp)).1, b2 d (List.mem_of_getElem? hd)⟩

/-- a table of contracts -/
abbrev Tab := List (Nat × Ct)

def TabOk (P : Program) (B ng : Nat) (T : Tab) : Prop := ∀ f c, find T f = some c → c.Ok P B ng f

def hookT (cx : Cx) (T : Tab) : Hook := fun f args M NX => match find T f with
  | some c => hookOf cx c args M NX
  | none => none

theorem hookT_ok {P : Program} {B : Nat} {cx : Cx} {T : Tab} (hT : TabOk P B cx.ng T) : HookOk P B cx.ng (hookT cx T) := by
  intro f args m nx e h hob hargs
  unfold hookT at h
  split at h
  · rename_i c hc
    exact hookOf_ok (hT f c hc) h hob hargs
  · cases h

theorem TabOk.nil (P : Program) (B ng : Nat) : TabOk P B ng [] := fun f c h => by cases h
theorem TabOk.cons {P : Program} {B ng : Nat} {T : Tab} {f : FuncId} {c : Ct} (h : c.Ok P B ng f) (hT : TabOk P B ng T) : TabOk P B ng ((f, c) :: T) := fun f' c' h' => by
  rw [find_cons] at h'
  by_cases e : f = f'
  · rw [if_pos e] at h'; cases h'; subst e; exact h
  · rw [if_neg e] at h'; exact hT f' c' h'

end Go.Sx

set_option linter.unusedVariables false
namespace Go.Sx
open Go.RowKit

/-- the first n cells, each as itself -/
def lit {α : Type} (z : α) (n : Nat) (l : List α) : List α := (List.range n).map fun j => l.getD j z

theorem lit_eq {α : Type} {z : α} {n : Nat} {l : List α} (h : l.length = n) : lit z n l = l := by
  apply List.ext_getElem?
  intro j
  unfold lit
  rw [List.getElem?_map]
  rcases Nat.lt_or_ge j n with hj | hj
  · rw [List.getElem?_range hj]
    simp [List.getD, show j < l.length by omega]
  · rw [List.getElem?_eq_none (by simpa using hj), List.getElem?_eq_none (by omega)]
    rfl

theorem lit_length {α : Type} (z : α) (n : Nat) (l : List α) : (lit z n l).length = n := by simp [lit]

theorem hookOk_nil (P : Program) (B : Nat) (cx : Cx) : HookOk P B cx.ng (hookT cx []) := hookT_ok (TabOk.nil P B cx.ng)

theorem obNil : ∀ p ∈ ([] : List Prop), p := fun p h => by cases h
theorem obCons {a : Prop} {l : List Prop} (h : a) (hl : ∀ p ∈ l, p) : ∀ p ∈ a :: l, p := fun p hp => by
  cases hp with
  | head => exact h
  | tail _ hp => exact hl p hp

/-- the state after a run, for its shape -/
def stOf (r : Res) : St := match r with
  | some (_, s, _) => s
  | none => ⟨[], [], 0⟩

/-- a whole straight body: run, cut down, read -/
theorem FnE.run {P : Program} {B : Nat} {cx : Cx} {H : Hook} (lim : Nat) (orc : Orc) (hmix : P.follows .mixedOrders = true) (hT : TysOk P cx.T) (hH : HookOk P B cx.ng H) {f : FuncId} {fn : Func} {c : Code} (hf : P.funcs[f]? = some fn) (hb : fn.body = some c)
    (hn : (fn.name == "runtime.NumGoroutine") = false) {args : List SV} (hlen : Nat.ble args.length fn.ntmps = true) {m : Mem} {nx : Nat} {e : Ef} (hlt : args.all (SV.lt nx) = true) (hle : nx ≤ e.nx) {ts ks : List Nat} {s' : St} {ob : List Prop}
    (hx : (match execL cx H fn.ntmps lim orc (flat c) ⟨enum 0 args, m, nx⟩ with
      | some (.x _, _, _) => none
      | some (_, s1, ob) => (match cut ts ks e.nx s1 with
        | some s' => some (s', ob)
        | none => none)
      | none => none) = some (s', ob)) (hob : ∀ p ∈ ob, p) {ob2 : List Prop} (hr : endsAs cx fn.results.toList ks e.nx s' = some (e.v, e.m, ob2)) (hob2 : ∀ p ∈ ob2, p) : FnE P B cx.ng f args m nx e := by
  refine FnE.of_tri hT hf hb hn rfl (Nat.le_of_ble_eq_true hlen) hlt hle ?_
  split at hx <;> first | (cases hx; done) | skip
  rename_i ex s1 ob1 hnx hex
  split at hx <;> first | (cases hx; done) | skip
  rename_i s2 hcut
  cases hx
  refine Tri.done hmix hT hH hex hob hcut hle ⟨?_, ks, ob2, hr, hob2⟩
  cases ex with
  | n => trivial
  | x i => exact (hnx i rfl).elim
  | r => trivial

end Go.Sx
