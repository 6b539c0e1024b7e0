/- The hook made of a contract, and a table of hooks. Conditions: none; plain definitions and theorems over any program. -/
import Derived.Test.YtnloecdkogckiaaDoorSx27
set_option linter.unusedVariables false
namespace Go.Sx
open Go.RowKit

def rdG (ng : Nat) (M : Mem) : List Nat → Option (List SegD)
  | [] => some []
  | g :: r => match find M g, rdG ng M r with
    | some S, some ds => bif Nat.blt g ng && (!S.own && (!S.grow && (!S.nxt && (Nat.beq S.n S.d.len && S.d.lt ng)))) then some (S.d :: ds) else none
    | _, _ => none

theorem rdG_spec {ng : Nat} {M : Mem} : ∀ {gl : List Nat} {gs : List SegD}, rdG ng M gl = some gs → ∀ k s, find (globs gl gs) k = some s → k < ng ∧ find M k = some s ∧ s.own = false ∧ s.d.lt ng = true ∧ s.nxt = false
  | [], gs, h, k, s, hk => by cases h; cases hk
  | g :: r, gs, h, k, s, hk => by
    simp only [rdG] at h
    split at h <;> first | (cases h; done) | skip
    rename_i S ds hS hds
    cases hb : (Nat.blt g ng && (!S.own && (!S.grow && (!S.nxt && (Nat.beq S.n S.d.len && S.d.lt ng))))) with
    | false => rw [hb] at h; cases h
    | true =>
      rw [hb, cond_true] at h
      cases h
      simp only [Bool.and_eq_true, Bool.not_eq_true', blt_iff] at hb
      obtain ⟨b1, b2, b3, b4, b5, b6⟩ := hb
      simp only [globs] at hk
      rw [find_cons] at hk
      by_cases e : g = k
      · rw [if_pos e] at hk
        cases hk
        subst e
        refine ⟨b1, ?_, rfl, b6, rfl⟩
        rw [hS]
        have b5' := Nat.eq_of_beq_eq_true b5
        cases S
        simp only at b2 b3 b4 b5' ⊢
        subst b2 b3 b4
        rw [b5']
      · rw [if_neg e] at hk
        exact rdG_spec hds k s hk

def chB : List Pc → Bool
  | [] => true
  | p :: r => (!p.nxt || (match r with
    | q :: _ => (match p.vw, q.vw with
      | .whole K, .whole K' => Nat.beq K' (K + 1)
      | _, _ => false)
    | [] => false)) && chB r

theorem chB_spec : ∀ {l : List Pc}, chB l = true → Chain l
  | [], _ => trivial
  | p :: r, h => by
    simp only [chB, Bool.and_eq_true, Bool.or_eq_true, Bool.not_eq_true'] at h
    refine ⟨fun hn => ?_, chB_spec h.2⟩
    rcases h.1 with h1 | h1
    · rw [hn] at h1; cases h1
    · split at h1
      · rename_i q r' 
        split at h1
        · rename_i K K' hp hq
          have := Nat.eq_of_beq_eq_true h1
          subst this
          exact ⟨q, r', rfl, K, hp, hq⟩
        · cases h1
      · cases h1

def kindOf (l : List Pc) (L : List Seg) : K4 := bif l.all (fun p => !p.own) then (match L with
  | [] => .read
  | s :: r => .new (s :: r)) else .eff

def hookOf (cx : Cx) (c : Ct) (args : List SV) (M : Mem) (NX : Nat) : Option Ef :=
  match rdA cx M 0 c.md args with
  | some (vs, l, ob1) => match rdG cx.ng M c.gl with
    | some gs => match c.F vs (l.map Pc.d) gs with
      | some out => match need cx (lensEq (l.map Pc.d) out.ds) (), upM M l out.ds, renV cx.ng l NX out.v with
        | some (_, ob2), some M1, some V => bif (l.all fun p => p.d.on noKey && (p.vw.isNil || Nat.blt p.vw.key NX)) && (out.ds.all (SegD.on noKey) && (out.L.all (fun s => s.own && s.d.on noKey) && (Apt l && (chB l && V.lt (NX + out.L.length))))) then
            some ⟨V, addM NX out.L M1, NX + out.L.length, kindOf l out.L, ob1 ++ (ob2 ++ out.pre)⟩ else none
        | _, _, _ => none
      | none => none
    | none => none
  | none => none

theorem lensEq_len : ∀ {z l : List SegD}, lensEq z l → z.length = l.length ∧ ∀ (i : Nat) (d e : SegD), z[i]? = some d → l[i]? = some e → e.len = d.len
  | [], [], _ => ⟨rfl, fun i d e h => by simp at h⟩
  | z :: zr, d :: dr, h => by
    obtain ⟨h1, h2⟩ := lensEq_len h.2
    refine ⟨by simp [h1], fun i a b ha hb => ?_⟩
    cases i with
    | zero => simp at ha hb; subst ha; subst hb; exact h.1
    | succ i => simp only [List.getElem?_cons_succ] at ha hb; exact h2 i a b ha hb
  | [], _ :: _, h => h.elim
  | _ :: _, [], h => h.elim

theorem upM_read : ∀ {l : List Pc} {ds : List SegD} {M M1 : Mem}, l.all (fun p => !p.own) = true → upM M l ds = some M1 → M1 = M
  | [], [], M, M1, _, h => by cases h; rfl
  | p :: r, d :: dr, M, M1, hl, h => by
    simp only [List.all_cons, Bool.and_eq_true, Bool.not_eq_true'] at hl
    simp only [upM, hl.1, Bool.false_and, cond_false] at h
    exact upM_read (by simpa using hl.2) h
  | [], _ :: _, _, _, _, h => by cases h
  | _ :: _, [], _, _, _, h => by cases h

theorem segsOf_upd : ∀ (md : List AM) (l : List Pc) (ds : List SegD), l.map Pc.seg = segsOf md (l.map Pc.d) → lensEq (l.map Pc.d) ds → (∀ p ∈ l, p.d.len = p.n) → (updP l ds).map Pc.seg = segsOf md ds
  | [], l, ds, h, hl, hn => by
    have : l = [] := by simpa [segsOf] using h
    subst this
    cases ds with
    | nil => rfl
    | cons d dr => exact hl.elim
  | m :: r, l, ds, h, hl, hn => by
    by_cases hm : m = .val
    · subst hm
      simp only [segsOf] at h ⊢
      exact segsOf_upd r l ds h hl hn
    · cases l with
      | nil =>
        cases ds with
        | nil => cases m <;> first | exact absurd rfl hm | rfl
        | cons d dr => exact hl.elim
      | cons p lr =>
        cases ds with
        | nil => exact hl.elim
        | cons d dr =>
          have hp := hn p List.mem_cons_self
          have hd : d.len = p.d.len := hl.1
          have step : ∀ (o x : Bool), p.seg :: lr.map Pc.seg = (⟨p.d.len, p.d, o, false, x⟩ : Seg) :: segsOf r (lr.map Pc.d) → (updP (p :: lr) (d :: dr)).map Pc.seg = (⟨d.len, d, o, false, x⟩ : Seg) :: segsOf r dr := by
            intro o x he
            simp only [List.cons.injEq, Pc.seg, Seg.mk.injEq] at he
            obtain ⟨⟨e1, _, e2, _, e3⟩, e4⟩ := he
            have ih := segsOf_upd r lr dr e4 hl.2 fun q hq => hn q (List.mem_cons_of_mem _ hq)
            simp only [updP, List.map_cons, ih, Pc.seg, e2, e3, hd, hp]
          cases m with
          | val => exact absurd rfl hm
          | ptr n o => exact step o false h
          | slc o => exact step o false h
          | whole o x => exact step o x h
          | rest o x => exact step o x h

theorem hookOf_ok {P : Program} {B : Nat} {cx : Cx} {f : FuncId} {c : Ct} (hc : c.Ok P B cx.ng f) {args : List SV} {M : Mem} {NX : Nat} {e : Ef} (h : hookOf cx c args M NX = some e) (hob : ∀ p ∈ e.ob, p) (hargs : args.all (SV.lt NX) = true) :
    FnOk P B cx.ng f args M NX e ∧ KOk e M NX := by
  unfold hookOf at h
  split at h <;> first | (cases h; done) | skip
  rename_i vs l ob1 hrd
  split at h <;> first | (cases h; done) | skip
  rename_i gs hgs
  split at h <;> first | (cases h; done) | skip
  rename_i out hF
  split at h <;> first | (cases h; done) | skip
  rename_i ob2 M1 V hneed hup hV
  cases hb : ((l.all fun p => p.d.on noKey && (p.vw.isNil || Nat.blt p.vw.key NX)) && (out.ds.all (SegD.on noKey) && (out.L.all (fun s => s.own && s.d.on noKey) && (Apt l && (chB l && V.lt (NX + out.L.length)))))) with
  | false => rw [hb] at h; cases h
  | true =>
    rw [hb, cond_true] at h
    cases h
    simp only [Bool.and_eq_true, List.all_eq_true, Bool.or_eq_true, blt_iff] at hb
    obtain ⟨b1, b2, b3, b4, b5, b6⟩ := hb
    have R := rdA_spec cx M 0 c.md args vs l ob1 hrd fun p hp => hob p (by simp [hp])
    have hlens := (need_spec hneed fun p hp => hob p (by simp [hp])).2
    have hpre : ∀ p ∈ out.pre, p := fun p hp => hob p (by simp [hp])
    obtain ⟨hl1, hl2⟩ := lensEq_len hlens
    rw [List.length_map] at hl1
    have hfit : ∀ p ∈ l, p.Fit cx.ng M := fun p hp => R.fit p hp (b1 p hp).1
    have hsm := hc vs (l.map Pc.d) gs out hF hpre fun d hd => by
      obtain ⟨p, hp, rfl⟩ := List.mem_map.1 hd
      exact (b1 p hp).1
    have hupd := segsOf_upd c.md l out.ds R.segs hlens fun p hp => (hfit p hp).1
    rw [← R.segs, ← hupd, List.length_map] at hsm
    have hren := R.ren NX []
    simp only [List.nil_append, List.length_nil, Nat.add_zero] at hren
    have hE := FnE.lift (c' := kindOf l out.L) (ob' := ob1 ++ (ob2 ++ out.pre)) (mG := globs c.gl gs) (rdG_spec hgs) hfit (chB_spec b5) b4 (fun p hp => (b1 p hp).2) hl1 (fun i p d hp hd => ?_) (fun s hs => b3 s hs) hup hren hargs hV hsm
    · refine ⟨⟨b6, .inl hE⟩, ?_⟩
      unfold KOk kindOf
      cases ha : l.all (fun p => !p.own) with
      | false => exact trivial
      | true =>
        have := upM_read ha hup
        subst this
        rw [cond_true]
        cases out.L with
        | nil => exact ⟨rfl, rfl⟩
        | cons s r => exact ⟨rfl, rfl⟩
    · have h1 : (l.map Pc.d)[i]? = some p.d := by rw [List.getElem?_map, hp]; rfl
      exact ⟨by rw [hl2 i p.d d h1 hd]; exact (hfit p (List.mem_of_getElem? hp)).1, b2 d (List.mem_of_getElem? hd)⟩

/-- a table of contracts -/
abbrev Tab := List (Nat × Ct)

def TabOk (P : Program) (B ng : Nat) (T : Tab) : Prop := ∀ f c, find T f = some c → c.Ok P B ng f

def hookT (cx : Cx) (T : Tab) : Hook := fun f args M NX => match find T f with
  | some c => hookOf cx c args M NX
  | none => none

theorem hookT_ok {P : Program} {B : Nat} {cx : Cx} {T : Tab} (hT : TabOk P B cx.ng T) : HookOk P B cx.ng (hookT cx T) := by
  intro f args m nx e h hob hargs
  unfold hookT at h
  split at h
  · rename_i c hc
    exact hookOf_ok (hT f c hc) h hob hargs
  · cases h

theorem TabOk.nil (P : Program) (B ng : Nat) : TabOk P B ng [] := fun f c h => by cases h
theorem TabOk.cons {P : Program} {B ng : Nat} {T : Tab} {f : FuncId} {c : Ct} (h : c.Ok P B ng f) (hT : TabOk P B ng T) : TabOk P B ng ((f, c) :: T) := fun f' c' h' => by
  rw [find_cons] at h'
  by_cases e : f = f'
  · rw [if_pos e] at h'; cases h'; subst e; exact h
  · rw [if_neg e] at h'; exact hT f' c' h'

end Go.Sx
