/- Contracts whose arguments share a pointer, and one contract behind another. Conditions: none; plain definitions and theorems over any program. -/
import Derived.Test.YtnloecdkogckiaaDoorSx36
set_option linter.unusedVariables false
namespace Go.Sx
open Go.RowKit

def nilV : SV := .tup []
def ptrEq : SV → SV → Bool
  | .one (.s (.p K o)), .one (.s (.p K' o')) => Nat.beq K K' && Nat.beq o o'
  | _, _ => false
theorem ptrEq_spec {a b : SV} (h : ptrEq a b = true) : a = b := by
  unfold ptrEq at h
  split at h <;> first | (cases h; done) | skip
  simp only [Bool.and_eq_true] at h
  rw [Nat.eq_of_beq_eq_true h.1, Nat.eq_of_beq_eq_true h.2]

/-- the values at some places -/
def pick (l : List SV) (is : List Nat) : List SV := is.map fun i => l.getD i nilV
def okBack (as as' : List SV) (sel : List Nat) : Nat → List Nat → Bool
  | _, [] => true
  | j, i :: r => (optB sel[i]? j || ptrEq (as.getD j nilV) (as'.getD i nilV)) && okBack as as' sel (j + 1) r
theorem okBack_spec {as : List SV} {sel : List Nat} : ∀ {back : List Nat} {j : Nat}, okBack as (pick as sel) sel j back = true → ∀ (k i : Nat), back[k]? = some i → as.getD (j + k) nilV = (pick as sel).getD i nilV
  | [], j, _, k, i, hk => by simp at hk
  | i0 :: r, j, h, k, i, hk => by
    simp only [okBack, Bool.and_eq_true, Bool.or_eq_true] at h
    cases k with
    | zero =>
      simp only [List.getElem?_cons_zero, Option.some.injEq] at hk
      subst hk
      rcases h.1 with h1 | h1
      · have h2 := optB_spec h1
        unfold pick
        rw [List.getD_eq_getElem?_getD, List.getD_eq_getElem?_getD, List.getElem?_map, h2, Nat.add_zero, ← List.getD_eq_getElem?_getD]
        rfl
      · exact ptrEq_spec h1
    | succ k =>
      simp only [List.getElem?_cons_succ] at hk
      have := okBack_spec h.2 k i hk
      rw [show j + (k + 1) = j + 1 + k by omega]
      exact this
theorem pick_back {as : List SV} {sel back : List Nat} (hl : as.length = back.length) (h : okBack as (pick as sel) sel 0 back = true) : as = pick (pick as sel) back := by
  apply List.ext_getElem?
  intro k
  rcases Nat.lt_or_ge k back.length with hk | hk
  · have hb : back[k]? = some back[k] := List.getElem?_eq_getElem hk
    have := okBack_spec h k _ hb
    rw [Nat.zero_add] at this
    conv => rhs; unfold pick
    rw [List.getElem?_map, hb, Option.map_some]
    have h2 : as[k]? = some as[k] := List.getElem?_eq_getElem (by omega)
    rw [List.getD_eq_getElem?_getD, h2, Option.getD_some] at this
    rw [h2, this]
    rfl
  · rw [List.getElem?_eq_none (by omega), List.getElem?_eq_none (by unfold pick; rw [List.length_map]; exact hk)]

theorem renVs_getD {ng NX : Nat} {l : List Pc} : ∀ {xs ys : List SV}, renVs ng l NX xs = some ys → ∀ i, renV ng l NX (xs.getD i nilV) = some (ys.getD i nilV)
  | [], ys, h, i => by cases h; rfl
  | x :: r, ys, h, i => by
    simp only [renVs] at h
    split at h <;> first | (cases h; done) | skip
    rename_i y ys' h1 h2
    cases h
    cases i with
    | zero => exact h1
    | succ i =>
      rw [List.getD_cons_succ, List.getD_cons_succ]
      exact renVs_getD h2 i
theorem renVs_pick {ng NX : Nat} {l : List Pc} {xs ys : List SV} (h : renVs ng l NX xs = some ys) : ∀ is, renVs ng l NX (pick xs is) = some (pick ys is)
  | [] => rfl
  | i :: r => by
    show renVs ng l NX (xs.getD i nilV :: pick xs r) = some (ys.getD i nilV :: pick ys r)
    simp only [renVs, renVs_getD h i, renVs_pick h r]

/-- a contract, its arguments laid out by places -/
def Ct.OkD (P : Program) (B ng : Nat) (f : FuncId) (back : List Nat) (c : Ct) : Prop :=
  ∀ vs ds gs out, c.F vs ds gs = some out → (∀ p ∈ out.pre, p) → (∀ d ∈ ds, d.on noKey = true) → FnE P B ng f (pick (canArgs ng c.md vs ds) back) (addM ng (segsOf c.md ds) (globs c.gl gs)) (ng + (segsOf c.md ds).length)
    ⟨out.v, addM (ng + (segsOf c.md ds).length) out.L (addM ng (segsOf c.md out.ds) (globs c.gl gs)), ng + (segsOf c.md ds).length + out.L.length, .eff, []⟩

def hookD (cx : Cx) (c : Ct) (sel back : List Nat) (args : List SV) (M : Mem) (NX : Nat) : Option Ef :=
  bif Nat.beq args.length back.length && okBack args (pick args sel) sel 0 back then hookOf cx c (pick args sel) M NX else none

theorem HkOk.dup {P : Program} {B : Nat} {cx : Cx} {f : FuncId} {c : Ct} {sel back : List Nat} (hc : c.OkD P B cx.ng f back) : HkOk P B cx.ng f (hookD cx c sel back) := by
  intro args M NX e h hob hargs
  unfold hookD at h
  cases hd : (Nat.beq args.length back.length && okBack args (pick args sel) sel 0 back) with
  | false => rw [hd] at h; cases h
  | true =>
  rw [hd, cond_true] at h
  simp only [Bool.and_eq_true] at hd
  have hA := pick_back (Nat.eq_of_beq_eq_true hd.1) hd.2
  unfold hookOf at h
  split at h <;> first | (cases h; done) | skip
  rename_i vs l ob1 hrd
  split at h <;> first | (cases h; done) | skip
  rename_i gs hgs
  split at h <;> first | (cases h; done) | skip
  rename_i out hF
  split at h <;> first | (cases h; done) | skip
  rename_i ob2 M1 V hneed hup hV
  cases hb : ((l.all fun p => p.d.on noKey && (p.vw.isNil || Nat.blt p.vw.key NX)) && (out.ds.all (SegD.on noKey) && (out.L.all (fun s => s.own && s.d.on noKey) && (Apt l && (chB l && V.lt (NX + out.L.length)))))) with
  | false => rw [hb] at h; cases h
  | true =>
    rw [hb, cond_true] at h
    cases h
    simp only [Bool.and_eq_true, List.all_eq_true, Bool.or_eq_true, blt_iff] at hb
    obtain ⟨b1, b2, b3, b4, b5, b6⟩ := hb
    have R := rdA_spec cx M 0 c.md (pick args sel) vs l ob1 hrd fun p hp => hob p (by simp [hp])
    have hlens := (need_spec hneed fun p hp => hob p (by simp [hp])).2
    have hpre : ∀ p ∈ out.pre, p := fun p hp => hob p (by simp [hp])
    obtain ⟨hl1, hl2⟩ := lensEq_len hlens
    rw [List.length_map] at hl1
    have hfit : ∀ p ∈ l, p.Fit cx.ng M := fun p hp => R.fit p hp (b1 p hp).1
    have hsm := hc vs (l.map Pc.d) gs out hF hpre fun d hd => by
      obtain ⟨p, hp, rfl⟩ := List.mem_map.1 hd
      exact (b1 p hp).1
    have hupd := segsOf_upd c.md l out.ds R.segs hlens fun p hp => (hfit p hp).1
    rw [← R.segs, ← hupd, List.length_map] at hsm
    have hren := R.ren NX []
    simp only [List.nil_append, List.length_nil, Nat.add_zero] at hren
    have hren2 := renVs_pick hren back
    rw [← hA] at hren2
    have hE := FnE.lift (c' := kindOf l out.L) (ob' := ob1 ++ (ob2 ++ out.pre)) (mG := globs c.gl gs) (rdG_spec hgs) hfit (chB_spec b5) b4 (fun p hp => (b1 p hp).2) hl1 (fun i p d hp hd => ?_) (fun s hs => b3 s hs) hup hren2 hargs hV hsm
    · refine ⟨⟨b6, .inl hE⟩, ?_⟩
      unfold KOk kindOf
      cases ha : l.all (fun p => !p.own) with
      | false => exact trivial
      | true =>
        have := upM_read ha hup
        subst this
        rw [cond_true]
        cases out.L with
        | nil => exact ⟨rfl, rfl⟩
        | cons s r => exact ⟨rfl, rfl⟩
    · have h1 : (l.map Pc.d)[i]? = some p.d := by rw [List.getElem?_map, hp]; rfl
      exact ⟨by rw [hl2 i p.d d h1 hd]; exact (hfit p (List.mem_of_getElem? hp)).1, b2 d (List.mem_of_getElem? hd)⟩

/-- one hook, and where it is silent another -/
def hookAlt (h1 h2 : List SV → Mem → Nat → Option Ef) (args : List SV) (M : Mem) (NX : Nat) : Option Ef := match h1 args M NX with
  | some e => some e
  | none => h2 args M NX
theorem HkOk.alt {P : Program} {B ng : Nat} {f : FuncId} {h1 h2 : List SV → Mem → Nat → Option Ef} (k1 : HkOk P B ng f h1) (k2 : HkOk P B ng f h2) : HkOk P B ng f (hookAlt h1 h2) := by
  intro args M NX e h hob ha
  unfold hookAlt at h
  split at h
  · rename_i e' he
    cases h
    exact k1 args M NX _ he hob ha
  · exact k2 args M NX _ h hob ha
end Go.Sx
