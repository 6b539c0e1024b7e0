/- A contract proved at a small memory, used at a larger one: values renamed, and the theorem. Conditions: none; plain definitions and theorems over any program. -/
import Derived.Test.YtnloecdkogckiaaDoorSx25
set_option linter.unusedVariables false
namespace Go.Sx
open Go.RowKit

def renSc (ng : Nat) (l : List Pc) (NX : Nat) : Sc → Option Sc
  | .p k o => bif Nat.blt k ng then some (.p k o) else (match l[k - ng]? with
    | some p => (match p.vw with
      | .cut K o' _ => some (.p K (o' + o))
      | .whole K => some (.p K o)
      | _ => none)
    | none => some (.p (NX + (k - (ng + l.length))) o))
  | .sl k o len cap => bif Nat.blt k ng then none else (match l[k - ng]? with
    | some p => (match p.vw with
      | .cut K o' _ => some (.sl K (o' + o) len cap)
      | .whole K => some (.sl K o len cap)
      | _ => none)
    | none => some (.sl (NX + (k - (ng + l.length))) o len cap))
  | .osl k len => bif Nat.blt k ng then none else (match l[k - ng]? with
    | some p => (match p.vw with
      | .cut K o' cap => some (.sl K o' len cap)
      | .osl K => some (.osl K len)
      | .nil => bif Nat.beq len 0 then some .sl0 else none
      | .whole _ => none)
    | none => some (.osl (NX + (k - (ng + l.length))) len))
  | .f t x => match renSc ng l NX x with
    | some y => some (.f t y)
    | none => none
  | x => some x

def renV0 (ng : Nat) (l : List Pc) (NX : Nat) : SV0 → Option SV0
  | .s x => match renSc ng l NX x with
    | some y => some (.s y)
    | none => none
  | .ag ds => bif ds.all (SegD.on noKey) then some (.ag ds) else none

def renV0s (ng : Nat) (l : List Pc) (NX : Nat) : List SV0 → Option (List SV0)
  | [] => some []
  | x :: r => match renV0 ng l NX x, renV0s ng l NX r with
    | some y, some ys => some (y :: ys)
    | _, _ => none

def renV (ng : Nat) (l : List Pc) (NX : Nat) : SV → Option SV
  | .one x => match renV0 ng l NX x with
    | some y => some (.one y)
    | none => none
  | .tup xs => match renV0s ng l NX xs with
    | some ys => some (.tup ys)
    | none => none

def renVs (ng : Nat) (l : List Pc) (NX : Nat) : List SV → Option (List SV)
  | [] => some []
  | x :: r => match renV ng l NX x, renVs ng l NX r with
    | some y, some ys => some (y :: ys)
    | _, _ => none

section
variable {ng NX : Nat} {l : List Pc} {ρ ρs : Env}

/-- the two environments say the same of what the views name -/
structure Ren (ng NX : Nat) (l : List Pc) (ρ ρs : Env) : Prop where
  le : ng ≤ NX
  lo : ∀ k, k < ng → ρs k = ρ k
  vw : ∀ i p, l[i]? = some p → ρs (ng + i) = p.vw.loc ρ
  key : ∀ p ∈ l, p.vw.isNil = true ∨ p.vw.key < NX

theorem Ren.sc (R : Ren ng NX l ρ ρs) : ∀ {x y : Sc}, renSc ng l NX x = some y → y.den (envB (ng + l.length) NX ρ ρs) = x.den ρs := by
  have lo : ∀ k, k < NX → envB (ng + l.length) NX ρ ρs k = ρ k := fun k hk => by simp [envB, hk]
  have hi : ∀ k, envB (ng + l.length) NX ρ ρs (NX + (k - (ng + l.length))) = ρs (ng + l.length + (k - (ng + l.length))) := fun k => by
    unfold envB
    rw [if_neg (by omega), show NX + (k - (ng + l.length)) - NX = k - (ng + l.length) by omega]
  have out : ∀ k, ng ≤ k → l[k - ng]? = none → envB (ng + l.length) NX ρ ρs (NX + (k - (ng + l.length))) = ρs k := by
    intro k hk hn
    rw [hi, show ng + l.length + (k - (ng + l.length)) = k by have := List.getElem?_eq_none_iff.1 hn; omega]
  have inn : ∀ k p, ng ≤ k → l[k - ng]? = some p → ρs k = p.vw.loc ρ := by
    intro k p hk hp
    have := R.vw _ p hp
    rw [show ng + (k - ng) = k by omega] at this
    exact this
  intro x
  induction x with
  | p k o =>
    intro y h
    simp only [renSc] at h
    cases hb : Nat.blt k ng with
    | true =>
      rw [hb, cond_true] at h
      cases h
      have hk := blt_iff.1 hb
      simp only [Sc.den]
      rw [lo k (Nat.lt_of_lt_of_le hk R.le), R.lo k hk]
    | false =>
      rw [hb, cond_false] at h
      have hk : ng ≤ k := by rcases Nat.lt_or_ge k ng with h1 | h1; (rw [blt_iff.2 h1] at hb; cases hb); exact h1
      split at h
      · rename_i p hp
        have e := inn k p hk hp
        have hkey := R.key p (List.mem_of_getElem? hp)
        split at h <;> first | (cases h; done) | skip
        · rename_i K o' cap hv
          cases h
          rw [hv] at e hkey
          rcases hkey with h1 | h1
          · cases h1
          · simp only [Sc.den]
            rw [lo K h1, e]
            simp only [Vw.loc]
            rw [Nat.add_assoc]
        · rename_i K hv
          cases h
          rw [hv] at e hkey
          rcases hkey with h1 | h1
          · cases h1
          · simp only [Sc.den]
            rw [lo K h1, e]
            rfl
      · rename_i hn
        cases h
        simp only [Sc.den]
        rw [out k hk hn]
  | sl k o len cap =>
    intro y h
    simp only [renSc] at h
    cases hb : Nat.blt k ng with
    | true => rw [hb] at h; cases h
    | false =>
      rw [hb, cond_false] at h
      have hk : ng ≤ k := by rcases Nat.lt_or_ge k ng with h1 | h1; (rw [blt_iff.2 h1] at hb; cases hb); exact h1
      split at h
      · rename_i p hp
        have e := inn k p hk hp
        have hkey := R.key p (List.mem_of_getElem? hp)
        split at h <;> first | (cases h; done) | skip
        · rename_i K o' cap' hv
          cases h
          rw [hv] at e hkey
          rcases hkey with h1 | h1
          · cases h1
          · simp only [Sc.den]
            rw [lo K h1, e]
            simp only [Vw.loc]
            rw [Nat.add_assoc]
        · rename_i K hv
          cases h
          rw [hv] at e hkey
          rcases hkey with h1 | h1
          · cases h1
          · simp only [Sc.den]
            rw [lo K h1, e]
            rfl
      · rename_i hn
        cases h
        simp only [Sc.den]
        rw [out k hk hn]
  | osl k len =>
    intro y h
    simp only [renSc] at h
    cases hb : Nat.blt k ng with
    | true => rw [hb] at h; cases h
    | false =>
      rw [hb, cond_false] at h
      have hk : ng ≤ k := by rcases Nat.lt_or_ge k ng with h1 | h1; (rw [blt_iff.2 h1] at hb; cases hb); exact h1
      split at h
      · rename_i p hp
        have e := inn k p hk hp
        have hkey := R.key p (List.mem_of_getElem? hp)
        split at h <;> first | (cases h; done) | skip
        · rename_i K o' cap' hv
          cases h
          rw [hv] at e hkey
          rcases hkey with h1 | h1
          · cases h1
          · simp only [Sc.den]
            rw [lo K h1, e]
            simp [Vw.loc]
        · rename_i K hv
          cases h
          rw [hv] at e hkey
          rcases hkey with h1 | h1
          · cases h1
          · simp only [Sc.den]
            rw [lo K h1, e]
            rfl
        · rename_i hv
          cases hl : Nat.beq len 0 with
          | false => rw [hl] at h; cases h
          | true =>
            rw [hl, cond_true] at h
            cases h
            have := Nat.eq_of_beq_eq_true hl
            subst this
            rw [hv] at e
            simp [Sc.den, e, Vw.loc]
      · rename_i hn
        cases h
        simp only [Sc.den]
        rw [out k hk hn]
  | f t x ih =>
    intro y h
    simp only [renSc] at h
    split at h <;> first | (cases h; done) | skip
    rename_i z hz
    cases h
    simp only [Sc.den]
    rw [ih hz]
  | _ => intro y h; cases h; rfl

theorem Ren.v0 (R : Ren ng NX l ρ ρs) {x y : SV0} (h : renV0 ng l NX x = some y) : y.den (envB (ng + l.length) NX ρ ρs) = x.den ρs := by
  cases x with
  | s x =>
    simp only [renV0] at h
    split at h <;> first | (cases h; done) | skip
    rename_i z hz
    cases h
    exact R.sc hz
  | ag ds =>
    simp only [renV0] at h
    cases hb : ds.all (SegD.on noKey) with
    | false => rw [hb] at h; cases h
    | true =>
      rw [hb, cond_true] at h
      cases h
      exact SV0.on_congr (p := noKey) (fun k hk => by cases hk) hb

theorem Ren.v0s (R : Ren ng NX l ρ ρs) : ∀ {xs ys : List SV0}, renV0s ng l NX xs = some ys → ys.map (SV0.den (envB (ng + l.length) NX ρ ρs)) = xs.map (SV0.den ρs)
  | [], ys, h => by cases h; rfl
  | x :: r, ys, h => by
    simp only [renV0s] at h
    split at h <;> first | (cases h; done) | skip
    rename_i y yr h1 h2
    cases h
    simp [R.v0 h1, R.v0s h2]

theorem Ren.v (R : Ren ng NX l ρ ρs) {x y : SV} (h : renV ng l NX x = some y) : y.den (envB (ng + l.length) NX ρ ρs) = x.den ρs := by
  cases x with
  | one x =>
    simp only [renV] at h
    split at h <;> first | (cases h; done) | skip
    rename_i z hz
    cases h
    exact R.v0 hz
  | tup xs =>
    simp only [renV] at h
    split at h <;> first | (cases h; done) | skip
    rename_i z hz
    cases h
    simp only [SV.den]
    rw [R.v0s hz]

theorem Ren.vs (R : Ren ng NX l ρ ρs) : ∀ {xs ys : List SV}, renVs ng l NX xs = some ys → ys.map (SV.den (envB (ng + l.length) NX ρ ρs)) = xs.map (SV.den ρs)
  | [], ys, h => by cases h; rfl
  | x :: r, ys, h => by
    simp only [renVs] at h
    split at h <;> first | (cases h; done) | skip
    rename_i y yr h1 h2
    cases h
    simp [R.v h1, R.vs h2]

end

/-- **A CONTRACT LIFTED.** -/
theorem FnE.lift {P : Program} {B ng NX : Nat} {f : FuncId} {args ARGS : List SV} {v V : SV} {L : List Seg} {ds : List SegD} {l : List Pc} {mG M M1 : Mem} {c c' : K4} {ob ob' : List Prop}
    (hG : ∀ k s, find mG k = some s → k < ng ∧ find M k = some s ∧ s.own = false ∧ s.d.lt ng = true ∧ s.nxt = false) (hfit : ∀ p ∈ l, p.Fit ng M) (hch : Chain l) (hap : Apt l = true) (hkey : ∀ p ∈ l, p.vw.isNil = true ∨ p.vw.key < NX)
    (hlen : l.length = ds.length) (hds : ∀ (i : Nat) (p : Pc) (d : SegD), l[i]? = some p → ds[i]? = some d → d.len = p.n ∧ d.on noKey = true) (hL : ∀ s ∈ L, s.own = true ∧ s.d.on noKey = true) (hup : upM M l ds = some M1)
    (hargs : renVs ng l NX args = some ARGS) (hAlt : ARGS.all (SV.lt NX) = true) (hv : renV ng l NX v = some V)
    (small : FnE P B ng f args (smallM ng l mG) (ng + l.length) ⟨v, addM (ng + l.length) L (smallM ng (updP l ds) mG), ng + l.length + L.length, c, ob⟩) :
    FnE P B ng f ARGS M NX ⟨V, addM NX L M1, NX + L.length, c', ob'⟩ := by
  obtain ⟨s1, s2⟩ := small
  refine ⟨s1, fun ρ w hm => ?_⟩
  have hV := View.of hm hG hfit hch hap
  have hkM : ∀ k s, find M k = some s → k < NX ∧ s.d.lt NX = true := fun k s hk => ⟨hm.keys k s hk, (hm.wf k s hk).1⟩
  have hBack := Back.of (NX := NX) hkM (fun k s hk => (hG k s hk).1) hlen hfit hap hds hL hup
  have envAt : ∀ i p, l[i]? = some p → envS ng ρ (locs ng l ρ) (ng + i) = p.vw.loc ρ := by
    intro i p hp
    rw [envS_hi (by omega)]
    simp [locs, show ng + i - ng = i by omega, hp]
  have R0 : Ren ng NX l ρ (envS ng ρ (locs ng l ρ)) := ⟨hm.ng_le, fun k hk => envS_lo hk, envAt, hkey⟩
  have hA : ARGS.map (SV.den ρ) = args.map (SV.den (envS ng ρ (locs ng l ρ))) := by
    rw [← R0.vs hargs]
    refine List.map_congr_left fun x hx => ?_
    exact (SV.den_congr (n := NX) (fun k hk => by simp [envB, hk]) (List.all_eq_true.1 hAlt x hx)).symm
  rw [hA]
  refine (s2 _ w (hV.memOk hm)).mono fun en w' ⟨ρs, he, hp⟩ => ?_
  have R1 : Ren ng NX l ρ ρs := by
    refine ⟨hm.ng_le, fun k hk => by rw [hp.ext k (by omega)]; exact envS_lo hk, fun i p hip => ?_, hkey⟩
    have := (List.getElem?_eq_some_iff.1 hip).1
    rw [hp.ext _ (by omega)]
    exact envAt i p hip
  have hpost := hV.post hm hp hBack
  rw [show ng + l.length + L.length - (ng + l.length) = L.length by omega] at hpost
  exact ⟨_, by rw [he]; exact congrArg _ (R1.v hv).symm, hpost⟩

end Go.Sx
