/- Contracts whose arguments share a pointer, and one contract behind another. Calls at one known memory; calls of functions that give back values alone. A law's call where package-level variables hold known data; what is owed behind it. Conditions: none; plain definitions and theorems over any program. -/
import Derived.Test.YtdigakgfngfnkaaSx32
import Derived.ChangeVars
import Derived.WalkSmall
set_option linter.unusedVariables false
namespace Go.Sx
open Go.RowKit

def nilV : SV := .tup []
def ptrEq : SV → SV → Bool
  | .one (.s (.p K o)), .one (.s (.p K' o')) => Nat.beq K K' && Nat.beq o o'
  | _, _ => false
theorem ptrEq_spec {a b : SV} (h : ptrEq a b = true) : a = b := by
  unfold ptrEq at h
  split at h <;> first | (cases h; done) | skip
  simp only [Bool.and_eq_true] at h
  rw [Nat.eq_of_beq_eq_true h.1, Nat.eq_of_beq_eq_true h.2]

/-- the values at some places -/
def pick (l : List SV) (is : List Nat) : List SV := is.map fun i => l.getD i nilV
def okBack (as as' : List SV) (sel : List Nat) : Nat → List Nat → Bool
  | _, [] => true
  | j, i :: r => (optB sel[i]? j || ptrEq (as.getD j nilV) (as'.getD i nilV)) && okBack as as' sel (j + 1) r
theorem okBack_spec {as : List SV} {sel : List Nat} : ∀ {back : List Nat} {j : Nat}, okBack as (pick as sel) sel j back = true → ∀ (k i : Nat), back[k]? = some i → as.getD (j + k) nilV = (pick as sel).getD i nilV
  | [], j, _, k, i, hk => by simp at hk
  | i0 :: r, j, h, k, i, hk => by
    simp only [okBack, Bool.and_eq_true, Bool.or_eq_true] at h
    cases k with
    | zero =>
      simp only [List.getElem?_cons_zero, Option.some.injEq] at hk
      subst hk
      rcases h.1 with h1 | h1
      · have h2 := optB_spec h1
        unfold pick
        rw [List.getD_eq_getElem?_getD, List.getD_eq_getElem?_getD, List.getElem?_map, h2, Nat.add_zero, ← List.getD_eq_getElem?_getD]
        rfl
      · exact ptrEq_spec h1
    | succ k =>
      simp only [List.getElem?_cons_succ] at hk
      have := okBack_spec h.2 k i hk
      rw [show j + (k + 1) = j + 1 + k by omega]
      exact this
theorem pick_back {as : List SV} {sel back : List Nat} (hl : as.length = back.length) (h : okBack as (pick as sel) sel 0 back = true) : as = pick (pick as sel) back := by
  apply List.ext_getElem?
  intro k
  rcases Nat.lt_or_ge k back.length with hk | hk
  · have hb : back[k]? = some back[k] := List.getElem?_eq_getElem hk
    have := okBack_spec h k _ hb
    rw [Nat.zero_add] at this
    conv => rhs; unfold pick
    rw [List.getElem?_map, hb, Option.map_some]
    have h2 : as[k]? = some as[k] := List.getElem?_eq_getElem (by omega)
    rw [List.getD_eq_getElem?_getD, h2, Option.getD_some] at this
    rw [h2, this]
    rfl
  · rw [List.getElem?_eq_none (by omega), List.getElem?_eq_none (by unfold pick; rw [List.length_map]; exact hk)]

theorem renVs_getD {ng NX : Nat} {l : List Pc} : ∀ {xs ys : List SV}, renVs ng l NX xs = some ys → ∀ i, renV ng l NX (xs.getD i nilV) = some (ys.getD i nilV)
  | [], ys, h, i => by cases h; rfl
  | x :: r, ys, h, i => by
    simp only [renVs] at h
    split at h <;> first | (cases h; done) | skip
    rename_i y ys' h1 h2
    cases h
    cases i with
    | zero => exact h1
    | succ i =>
      rw [List.getD_cons_succ, List.getD_cons_succ]
      exact renVs_getD h2 i
theorem renVs_pick {ng NX : Nat} {l : List Pc} {xs ys : List SV} (h : renVs ng l NX xs = some ys) : ∀ is, renVs ng l NX (pick xs is) = some (pick ys is)
  | [] => rfl
  | i :: r => by
    show renVs ng l NX (xs.getD i nilV :: pick xs r) = some (ys.getD i nilV :: pick ys r)
    simp only [renVs, renVs_getD h i, renVs_pick h r]

/-- a contract, its arguments laid out by places -/
def Ct.OkD (P : Program) (B ng : Nat) (f : FuncId) (back : List Nat) (c : Ct) : Prop :=
  ∀ vs ds gs out, c.F vs ds gs = some out → (∀ p ∈ out.pre, p) → (∀ d ∈ ds, d.on noKey = true) → FnE P B ng f (pick (canArgs ng c.md vs ds) back) (addM ng (segsOf c.md ds) (globs c.gl gs)) (ng + (segsOf c.md ds).length)
    ⟨out.v, addM (ng + (segsOf c.md ds).length) out.L (addM ng (segsOf c.md out.ds) (globs c.gl gs)), ng + (segsOf c.md ds).length + out.L.length, .eff, []⟩

def hookD (cx : Cx) (c : Ct) (sel back : List Nat) (args : List SV) (M : Mem) (NX : Nat) : Option Ef :=
  bif Nat.beq args.length back.length && okBack args (pick args sel) sel 0 back then hookOf cx c (pick args sel) M NX else none

theorem HkOk.dup {P : Program} {B : Nat} {cx : Cx} {f : FuncId} {c : Ct} {sel back : List Nat} (hc : c.OkD P B cx.ng f back) : HkOk P B cx.ng f (hookD cx c sel back) := by
  intro args M NX e h hob hargs
  unfold hookD at h
  cases hd : (Nat.beq args.length back.length && okBack args (pick args sel) sel 0 back) with
  | false => rw [hd] at h; cases h
  | true =>
  rw [hd, cond_true] at h
  simp only [Bool.and_eq_true] at hd
  have hA := pick_back (Nat.eq_of_beq_eq_true hd.1) hd.2
  unfold hookOf at h
  split at h <;> first | (cases h; done) | skip
  rename_i vs l ob1 hrd
  split at h <;> first | (cases h; done) | skip
  rename_i gs hgs
  split at h <;> first | (cases h; done) | skip
  rename_i out hF
  split at h <;> first | (cases h; done) | skip
  rename_i ob2 M1 V hneed hup hV
  cases hb : ((l.all fun p => p.d.on noKey && (p.vw.isNil || Nat.blt p.vw.key NX)) && (out.ds.all (SegD.on noKey) && (out.L.all (fun s => s.own && s.d.on noKey) && (Apt l && (chB l && V.lt (NX + out.L.length)))))) with
  | false => rw [hb] at h; cases h
  | true =>
    rw [hb, cond_true] at h
    cases h
    simp only [Bool.and_eq_true, List.all_eq_true, Bool.or_eq_true, blt_iff] at hb
    obtain ⟨b1, b2, b3, b4, b5, b6⟩ := hb
    have R := rdA_spec cx M 0 c.md (pick args sel) vs l ob1 hrd fun p hp => hob p (by simp [hp])
    have hlens := (need_spec hneed fun p hp => hob p (by simp [hp])).2
    have hpre : ∀ p ∈ out.pre, p := fun p hp => hob p (by simp [hp])
    obtain ⟨hl1, hl2⟩ := lensEq_len hlens
    rw [List.length_map] at hl1
    have hfit : ∀ p ∈ l, p.Fit cx.ng M := fun p hp => R.fit p hp (b1 p hp).1
    have hsm := hc vs (l.map Pc.d) gs out hF hpre fun d hd => by
      obtain ⟨p, hp, rfl⟩ := List.mem_map.1 hd
      exact (b1 p hp).1
    have hupd := segsOf_upd c.md l out.ds R.segs hlens fun p hp => (hfit p hp).1
    rw [← R.segs, ← hupd, List.length_map] at hsm
    have hren := R.ren NX []
    simp only [List.nil_append, List.length_nil, Nat.add_zero] at hren
    have hren2 := renVs_pick hren back
    rw [← hA] at hren2
    have hE := FnE.lift (c' := kindOf l out.L) (ob' := ob1 ++ (ob2 ++ out.pre)) (mG := globs c.gl gs) (rdG_spec hgs) hfit (chB_spec b5) b4 (fun p hp => (b1 p hp).2) hl1 (fun i p d hp hd => ?_) (fun s hs => b3 s hs) hup hren2 hargs hV hsm
    · refine ⟨⟨b6, .inl hE⟩, ?_⟩
      unfold KOk kindOf
      cases ha : l.all (fun p => !p.own) with
      | false => exact trivial
      | true =>
        have := upM_read ha hup
        subst this
        rw [cond_true]
        cases out.L with
        | nil => exact ⟨rfl, rfl⟩
        | cons s r => exact ⟨rfl, rfl⟩
    · have h1 : (l.map Pc.d)[i]? = some p.d := by rw [List.getElem?_map, hp]; rfl
      exact ⟨by rw [hl2 i p.d d h1 hd]; exact (hfit p (List.mem_of_getElem? hp)).1, b2 d (List.mem_of_getElem? hd)⟩

/-- one hook, and where it is silent another -/
def hookAlt (h1 h2 : List SV → Mem → Nat → Option Ef) (args : List SV) (M : Mem) (NX : Nat) : Option Ef := match h1 args M NX with
  | some e => some e
  | none => h2 args M NX
theorem HkOk.alt {P : Program} {B ng : Nat} {f : FuncId} {h1 h2 : List SV → Mem → Nat → Option Ef} (k1 : HkOk P B ng f h1) (k2 : HkOk P B ng f h2) : HkOk P B ng f (hookAlt h1 h2) := by
  intro args M NX e h hob ha
  unfold hookAlt at h
  split at h
  · rename_i e' he
    cases h
    exact k1 args M NX _ he hob ha
  · exact k2 args M NX _ h hob ha
end Go.Sx

set_option linter.unusedVariables false
namespace Go.Sx
open Go.RowKit

/-- a call at the very arguments and the very memory that a contract names -/
def hookAt (args0 : List SV) (m0 : Mem) (nx0 : Nat) (v : SV) (m1 : Mem) (nx1 : Nat) (args : List SV) (m : Mem) (nx : Nat) : Option Ef :=
  bif v.lt nx1 then some ⟨v, m1, nx1, .eff, [args = args0, m = m0, nx = nx0]⟩ else none
theorem HkOk.at_ {P : Program} {B ng : Nat} {f : FuncId} {args0 : List SV} {m0 : Mem} {nx0 : Nat} {v : SV} {m1 : Mem} {nx1 : Nat} (h : FnE P B ng f args0 m0 nx0 ⟨v, m1, nx1, .eff, []⟩) : HkOk P B ng f (hookAt args0 m0 nx0 v m1 nx1) := by
  intro args m nx e he hob ha
  unfold hookAt at he
  cases hb : v.lt nx1 with
  | false => rw [hb] at he; cases he
  | true =>
    rw [hb, cond_true] at he
    cases he
    have e1 : args = args0 := hob (args = args0) (by simp)
    have e2 : m = m0 := hob (m = m0) (by simp)
    have e3 : nx = nx0 := hob (nx = nx0) (by simp)
    subst e1 e2 e3
    exact ⟨⟨hb, .inl h⟩, trivial⟩

/-- what a quiet call reads: nothing of it is ours -/
def quietB (nx0 : Nat) (m0 : Mem) : Bool := m0.all fun p => !p.2.own && (!p.2.nxt && (p.2.d.lt nx0 && Nat.blt p.1 nx0))
theorem MemOk.partQ {B ng : Nat} {ρ : Env} {m0 M : Mem} {nx0 NX : Nat} {w : World} (h : MemOk B ng ρ M NX w) (hq : quietB nx0 m0 = true) (hn : ng ≤ nx0) (hs : ∀ k s, find m0 k = some s → find M k = some s) : MemOk B ng ρ m0 nx0 w := by
  have get : ∀ k s, find m0 k = some s → s.own = false ∧ s.nxt = false ∧ s.d.lt nx0 = true ∧ k < nx0 := fun k s hk => by
    have := List.all_eq_true.1 hq (k, s) (find_memP hk)
    simp only [Bool.and_eq_true, Bool.not_eq_true', blt_iff] at this
    exact this
  refine ⟨fun k s hk => (get k s hk).2.2.2, fun k s hk => h.segs k s (hs k s hk), fun k k' s s' hk hk' hne ho => ?_, h.base, h.glob, hn, fun k s hk => ⟨(get k s hk).2.2.1, fun hx => by rw [(get k s hk).2.1] at hx; cases hx⟩⟩
  rcases ho with ho | ho
  · rw [(get k s hk).1] at ho; cases ho
  · rw [(get k' s' hk').1] at ho; cases ho
theorem PostM.quiet {B ng : Nat} {ρ ρ' : Env} {m0 m' M : Mem} {nx0 nx' NX : Nat} {w w' : World} (h : MemOk B ng ρ M NX w) (hq : quietB nx0 m0 = true) (hp : PostM B ng ρ m0 nx0 w ρ' m' nx' w') : PostM B ng ρ M NX w ρ M NX w' := by
  have hno : ∀ b o, ¬ Owns ρ m0 b o := by
    rintro b o ⟨k, s, hk, ho, _⟩
    have := List.all_eq_true.1 hq (k, s) (find_memP hk)
    simp only [Bool.and_eq_true, Bool.not_eq_true'] at this
    rw [this.1] at ho; cases ho
  have hc : ∀ b o, b < w.heap.size → w'.cell? ⟨b, o, none⟩ = w.cell? ⟨b, o, none⟩ ∧ w'.frozen? ⟨b, o, none⟩ = w.frozen? ⟨b, o, none⟩ := fun b o hb => hp.frame.cell b o hb (hno b o)
  exact ⟨fun _ _ => rfl, ⟨h.keys, fun k s hk => (h.segs k s hk).congr fun j hj => hc _ _ ((h.segs k s hk).lt hj), h.dis, hp.ok.base, h.glob, h.ng_le, h.wf⟩, ⟨hp.frame.below, fun b o hb _ => hc b o hb⟩, fun _ _ _ h => h, fun _ _ _ h => h, Nat.le_refl _⟩

/-- values in, a value out, and a memory that must be there -/
def hookQ (m0 : Mem) (F : List SV → Option SV) (args : List SV) (M : Mem) (NX : Nat) : Option Ef := match F args with
  | some v => bif v.lt 0 && v.lt NX then some ⟨v, M, NX, .read, m0.map fun p => find M p.1 = some p.2⟩ else none
  | none => none
theorem HkOk.quiet {P : Program} {B ng : Nat} {f : FuncId} {m0 : Mem} {nx0 : Nat} {F : List SV → Option SV} (hq : quietB nx0 m0 = true) (hn : ng ≤ nx0) (hF : ∀ args v, F args = some v → ∃ m' nx', FnE P B ng f args m0 nx0 ⟨v, m', nx', .eff, []⟩) :
    HkOk P B ng f (hookQ m0 F) := by
  intro args M NX e he hob ha
  unfold hookQ at he
  split at he <;> first | (cases he; done) | skip
  rename_i v hv
  cases hb : (v.lt 0 && v.lt NX) with
  | false => rw [hb] at he; cases he
  | true =>
    rw [hb, cond_true] at he
    cases he
    simp only [Bool.and_eq_true] at hb
    obtain ⟨m', nx', s1, s2⟩ := hF args v hv
    refine ⟨⟨hb.2, .inl ⟨s1, fun ρ w hm => ?_⟩⟩, ⟨rfl, rfl⟩⟩
    have hs : ∀ k s, find m0 k = some s → find M k = some s := fun k s hk => hob (find M k = some s) (List.mem_map.2 ⟨(k, s), find_memP hk, rfl⟩)
    refine (s2 ρ w (hm.partQ hq hn hs)).mono fun en w' ⟨ρ', hen, hp⟩ => ⟨ρ, ?_, PostM.quiet hm hq hp⟩
    rw [hen]
    exact congrArg _ (SV.den_congr (n := 0) (fun k hk => by omega) hb.1)
end Go.Sx

set_option linter.unusedVariables false
namespace Go.Sx
open Go.RowKit Go.ChangeShapes Go.WideShapes

/-- what a piece that nothing writes must be -/
structure SegRo (ρ : Env) (nx : Nat) (k : Nat) (s : Seg) (W : World) : Prop where
  own : s.own = false
  grow : s.grow = false
  nxt : s.nxt = false
  len : s.d.len = s.n
  cap : s.d.len ≤ (ρ k).cap
  nil : (ρ k).isNil = true → (ρ k).cap = 0
  cell : ∀ j x, s.d.scs[j]? = some x → W.cell? ⟨(ρ k).blk, (ρ k).off + j, none⟩ = some (x.den ρ)
  lt : k < nx
  flat : s.d.lt nx = true
theorem memG {ng nx : Nat} {m : Mem} {ρ : Env} {W : World} (h : ∀ k s, find m k = some s → SegRo ρ nx k s W) (hg : ∀ g, g < ng → (ρ g).blk = g ∧ (ρ g).off = 0) (hn : ng ≤ nx) : MemOk W.heap.size ng ρ m nx W := by
  refine ⟨fun k s hk => (h k s hk).lt, fun k s hk => ?_, fun k k' s s' hk hk' _ ho => ?_, Nat.le_refl _, hg, hn, fun k s hk => ⟨(h k s hk).flat, fun a => (by rw [(h k s hk).nxt] at a; cases a)⟩⟩
  · have H := h k s hk
    refine ⟨fun a => (by rw [H.own] at a; cases a), fun _ => H.len, H.cap, H.nil, H.cell, fun a => (by rw [H.own] at a; cases a), fun a => (by rw [H.nxt] at a; cases a), fun a => (by rw [H.grow] at a; cases a)⟩
  · rcases ho with ho | ho
    · rw [(h k s hk).own] at ho; cases ho
    · rw [(h k' s' hk').own] at ho; cases ho
/-- a law's call, from its contract -/
theorem lawCallG {P : Program} {W : World} {ng nx : Nat} {f : FuncId} {args : List SV} {m : Mem} {ρ : Env} (hm : MemOk W.heap.size ng ρ m nx W) {e : Ef} (hv : e.v = .one (.s (.b true)))
    (hf : FnE P W.heap.size ng f args m nx e) {vs : Array Value} (hvs : vs.toList = args.map (SV.den ρ)) :
    Calls P f vs W fun en W' => en = .returned (.bool true) ∧ Below W.heap.size W W' := by
  have := hf.2 _ W hm
  rw [← hvs] at this
  refine this.mono fun en W' ⟨ρ', he, hp⟩ => ⟨?_, hp.frame.below⟩
  rw [he, hv]; rfl

section
variable {H : Type} {enc : TypeId × Value → H} {P : Program} {W : World}
theorem trodPtr_below {W' : World} {t e : TypeId} {cs : Array Value} {fuel : Nat} {d : DataW H} {p : List MemPlace} (ht : P.underlying t = some (.pointer e)) (hl : laidOutB P = true) (hr : P.readableRec t = true) (hrow : t < P.types.size)
    (h : DataW.trod enc P W 0 (fun _ => true) true fuel t cs.toList = some (d, p)) (hb : Below W.heap.size W W') (hlt : ∀ x ∈ p, x.block < W.heap.size) :
    ∃ fuel', DataW.trod enc P W' 0 (fun b => decide (b < W.heap.size)) true fuel' t cs.toList = some (d, p) := by
  have one : ∃ v : Value, cs.toList = v.cells.toList := by
    rcases DataW.trod_pointer ht h with ⟨h1, _⟩ | ⟨a, _, _, _, _, h1, _, _, _⟩
    · exact ⟨.pointer none, h1⟩
    · exact ⟨.pointer (some a), h1⟩
  obtain ⟨v, hv⟩ := one
  rw [hv] at h ⊢
  exact Below.trod hl hr hrow ⟨fuel, h⟩ hb hlt
/-- a law's statement, behind the call: one variable is named, and holds what it held -/
theorem lawPostV {s : ChangeSpec} {fn : Func} {ds gs : List (DataW H)} {before : List MemPlace} {args : Array Value} {W' : World} {tb tv te : TypeId} {nm : String} {g : Nat} (hW : DataW.Whole enc P fn.params.toList s.vars false W args.toList ds gs before) (hvars : s.vars = [nm])
    (hs : ∀ g1, s.fn H (ds ++ [g1]) = { results := [.lit (.bool true)], args := ds, vars := [g1] }) (hrt : fn.resultTypes = #[tb]) (htb : P.underlying tb = some .bool) (hl : laidOutB P = true) (hr : ∀ t ∈ fn.params.toList, P.readableRec t = true ∧ t < P.types.size)
    (hgn : P.globalNamed nm = some g) (htv : (P.globals[g]?).map (·.type) = some tv) (htp : P.underlying tv = some (.pointer te)) (hrv : P.readableRec tv = true ∧ tv < P.types.size)
    (hb : Below W.heap.size W W') : s.post enc P fn false true false false W args (.bool true) W' := by
  have hlt : ∀ x ∈ before, x.block < W.heap.size := fun x hx => hW.lt x hx
  have hW' := hW
  obtain ⟨p, q, hA, hV, e, _, _⟩ := hW
  rw [hvars] at hV
  obtain ⟨g', t, cs, fuel, d, p', rfl, h1, h2, h3, h4, h5⟩ := trodVars_one hV
  obtain rfl := Option.some.inj (hgn.symm.trans h1)
  obtain rfl := Option.some.inj (htv.symm.trans h2)
  have hp : ∀ x ∈ p, x.block < W.heap.size := fun x hx => hlt x (by rw [e]; exact List.mem_append_left _ hx)
  have hq : ∀ x ∈ q, x.block < W.heap.size := fun x hx => hlt x (by rw [e]; exact List.mem_append_right _ hx)
  have hp' : ∀ x ∈ p', x.block < W.heap.size := fun x hx => hq x (by rw [h5]; exact List.mem_append_right _ hx)
  have gB : g < W.heap.size := by
    simp only [World.var?, hgn, Option.bind_some] at h3
    split at h3
    · rename_i hb
      exact (Array.getElem?_eq_some_iff.1 hb).1
    · cases h3
  obtain ⟨fuel', h6⟩ := trodPtr_below htp hl hrv.1 hrv.2 h4 hb hp'
  refine ⟨ds, [d], before, [], p, q, hW', ?_, ?_, ?_, World.keptBut_mono (fun x f => f.elim) (hb.frame (fun _ => False)), fun h => by cases h⟩
  · rw [hs, hrt]
    exact trodAll_mk1 (shut_bool htb true)
  · rw [hs]
    exact belowAll hl hb hr hA hp
  · rw [hs, hvars, h5]
    exact trodVars_mk1 hgn htv (var?_below hb hgn gB h3) h6
end
end Go.Sx
