/- Contracts whose arguments share a pointer, and one contract behind another. Calls at one known memory; calls of functions that give back values alone. A law's call where package-level variables hold known data; what is owed behind it. Calls within a larger memory; slices that grew, seen with their spare cells; a slice moved to a key of its own. Slices that grew, seen with their spare cells; a slice moved to a key of its own. A nil slice within a tuple, under a key of its own. A call that is known at one memory, at another place of a larger one. Conditions: none; plain definitions and theorems over any program. -/
import Derived.Test.YtbkobeclkeojoaaGreatDoorSx32
import Derived.ChangeVars
import Derived.WalkSmall
set_option linter.unusedVariables false
namespace Go.Sx
open Go.RowKit

def nilV : SV := .tup []
def ptrEq : SV → SV → Bool
  | .one (.s (.p K o)), .one (.s (.p K' o')) => Nat.beq K K' && Nat.beq o o'
  | _, _ => false
theorem ptrEq_spec {a b : SV} (h : ptrEq a b = true) : a = b := by
  unfold ptrEq at h
  split at h <;> first | (cases h; done) | skip
  simp only [Bool.and_eq_true] at h
  rw [Nat.eq_of_beq_eq_true h.1, Nat.eq_of_beq_eq_true h.2]

/-- the values at some places -/
def pick (l : List SV) (is : List Nat) : List SV := is.map fun i => l.getD i nilV
def okBack (as as' : List SV) (sel : List Nat) : Nat → List Nat → Bool
  | _, [] => true
  | j, i :: r => (optB sel[i]? j || ptrEq (as.getD j nilV) (as'.getD i nilV)) && okBack as as' sel (j + 1) r
theorem okBack_spec {as : List SV} {sel : List Nat} : ∀ {back : List Nat} {j : Nat}, okBack as (pick as sel) sel j back = true → ∀ (k i : Nat), back[k]? = some i → as.getD (j + k) nilV = (pick as sel).getD i nilV
  | [], j, _, k, i, hk => by simp at hk
  | i0 :: r, j, h, k, i, hk => by
    simp only [okBack, Bool.and_eq_true, Bool.or_eq_true] at h
    cases k with
    | zero =>
      simp only [List.getElem?_cons_zero, Option.some.injEq] at hk
      subst hk
      rcases h.1 with h1 | h1
      · have h2 := optB_spec h1
        unfold pick
        rw [List.getD_eq_getElem?_getD, List.getD_eq_getElem?_getD, List.getElem?_map, h2, Nat.add_zero, ← List.getD_eq_getElem?_getD]
        rfl
      · exact ptrEq_spec h1
    | succ k =>
      simp only [List.getElem?_cons_succ] at hk
      have := okBack_spec h.2 k i hk
      rw [show j + (k + 1) = j + 1 + k by omega]
      exact this
theorem pick_back {as : List SV} {sel back : List Nat} (hl : as.length = back.length) (h : okBack as (pick as sel) sel 0 back = true) : as = pick (pick as sel) back := by
  apply List.ext_getElem?
  intro k
  rcases Nat.lt_or_ge k back.length with hk | hk
  · have hb : back[k]? = some back[k] := List.getElem?_eq_getElem hk
    have := okBack_spec h k _ hb
    rw [Nat.zero_add] at this
    conv => rhs; unfold pick
    rw [List.getElem?_map, hb, Option.map_some]
    have h2 : as[k]? = some as[k] := List.getElem?_eq_getElem (by omega)
    rw [List.getD_eq_getElem?_getD, h2, Option.getD_some] at this
    rw [h2, this]
    rfl
  · rw [List.getElem?_eq_none (by omega), List.getElem?_eq_none (by unfold pick; rw [List.length_map]; exact hk)]

theorem renVs_getD {ng NX : Nat} {l : List Pc} : ∀ {xs ys : List SV}, renVs ng l NX xs = some ys → ∀ i, renV ng l NX (xs.getD i nilV) = some (ys.getD i nilV)
  | [], ys, h, i => by cases h; rfl
  | x :: r, ys, h, i => by
    simp only [renVs] at h
    split at h <;> first | (cases h; done) | skip
    rename_i y ys' h1 h2
    cases h
    cases i with
    | zero => exact h1
    | succ i =>
      rw [List.getD_cons_succ, List.getD_cons_succ]
      exact renVs_getD h2 i
theorem renVs_pick {ng NX : Nat} {l : List Pc} {xs ys : List SV} (h : renVs ng l NX xs = some ys) : ∀ is, renVs ng l NX (pick xs is) = some (pick ys is)
  | [] => rfl
  | i :: r => by
    show renVs ng l NX (xs.getD i nilV :: pick xs r) = some (ys.getD i nilV :: pick ys r)
    simp only [renVs, renVs_getD h i, renVs_pick h r]

/-- a contract, its arguments laid out by places -/
def Ct.OkD (P : Program) (B ng : Nat) (f : FuncId) (back : List Nat) (c : Ct) : Prop :=
  ∀ vs ds gs out, c.F vs ds gs = some out → (∀ p ∈ out.pre, p) → (∀ d ∈ ds, d.on noKey = true) → FnE P B ng f (pick (canArgs ng c.md vs ds) back) (addM ng (segsOf c.md ds) (globs c.gl gs)) (ng + (segsOf c.md ds).length)
    ⟨out.v, addM (ng + (segsOf c.md ds).length) out.L (addM ng (segsOf c.md out.ds) (globs c.gl gs)), ng + (segsOf c.md ds).length + out.L.length, .eff, []⟩

def hookD (cx : Cx) (c : Ct) (sel back : List Nat) (args : List SV) (M : Mem) (NX : Nat) : Option Ef :=
  bif Nat.beq args.length back.length && okBack args (pick args sel) sel 0 back then hookOf cx c (pick args sel) M NX else none

theorem HkOk.dup {P : Program} {B : Nat} {cx : Cx} {f : FuncId} {c : Ct} {sel back : List Nat} (hc : c.OkD P B cx.ng f back) : HkOk P B cx.ng f (hookD cx c sel back) := by
  intro args M NX e h hob hargs
  unfold hookD at h
  cases hd : (Nat.beq args.length back.length && okBack args (pick args sel) sel 0 back) with
  | false => rw [hd] at h; cases h
  | true =>
  rw [hd, cond_true] at h
  simp only [Bool.and_eq_true] at hd
  have hA := pick_back (Nat.eq_of_beq_eq_true hd.1) hd.2
  unfold hookOf at h
  split at h <;> first | (cases h; done) | skip
  rename_i vs l ob1 hrd
  split at h <;> first | (cases h; done) | skip
  rename_i gs hgs
  split at h <;> first | (cases h; done) | skip
  rename_i out hF
  split at h <;> first | (cases h; done) | skip
  rename_i ob2 M1 V hneed hup hV
  cases hb : ((l.all fun p => p.d.on noKey && (p.vw.isNil || Nat.blt p.vw.key NX)) && (out.ds.all (SegD.on noKey) && (out.L.all (fun s => s.own && s.d.on noKey) && (Apt l && (chB l && V.lt (NX + out.L.length)))))) with
  | false => rw [hb] at h; cases h
  | true =>
    rw [hb, cond_true] at h
    cases h
    simp only [Bool.and_eq_true, List.all_eq_true, Bool.or_eq_true, blt_iff] at hb
    obtain ⟨b1, b2, b3, b4, b5, b6⟩ := hb
    have R := rdA_spec cx M 0 c.md (pick args sel) vs l ob1 hrd fun p hp => hob p (by simp [hp])
    have hlens := (need_spec hneed fun p hp => hob p (by simp [hp])).2
    have hpre : ∀ p ∈ out.pre, p := fun p hp => hob p (by simp [hp])
    obtain ⟨hl1, hl2⟩ := lensEq_len hlens
    rw [List.length_map] at hl1
    have hfit : ∀ p ∈ l, p.Fit cx.ng M := fun p hp => R.fit p hp (b1 p hp).1
    have hsm := hc vs (l.map Pc.d) gs out hF hpre fun d hd => by
      obtain ⟨p, hp, rfl⟩ := List.mem_map.1 hd
      exact (b1 p hp).1
    have hupd := segsOf_upd c.md l out.ds R.segs hlens fun p hp => (hfit p hp).1
    rw [← R.segs, ← hupd, List.length_map] at hsm
    have hren := R.ren NX []
    simp only [List.nil_append, List.length_nil, Nat.add_zero] at hren
    have hren2 := renVs_pick hren back
    rw [← hA] at hren2
    have hE := FnE.lift (c' := kindOf l out.L) (ob' := ob1 ++ (ob2 ++ out.pre)) (mG := globs c.gl gs) (rdG_spec hgs) hfit (chB_spec b5) b4 (fun p hp => (b1 p hp).2) hl1 (fun i p d hp hd => ?_) (fun s hs => b3 s hs) hup hren2 hargs hV hsm
    · refine ⟨⟨b6, .inl hE⟩, ?_⟩
      unfold KOk kindOf
      cases ha : l.all (fun p => !p.own) with
      | false => exact trivial
      | true =>
        have := upM_read ha hup
        subst this
        rw [cond_true]
        cases out.L with
        | nil => exact ⟨rfl, rfl⟩
        | cons s r => exact ⟨rfl, rfl⟩
    · have h1 : (l.map Pc.d)[i]? = some p.d := by rw [List.getElem?_map, hp]; rfl
      exact ⟨by rw [hl2 i p.d d h1 hd]; exact (hfit p (List.mem_of_getElem? hp)).1, b2 d (List.mem_of_getElem? hd)⟩

/-- one hook, and where it is silent another -/
def hookAlt (h1 h2 : List SV → Mem → Nat → Option Ef) (args : List SV) (M : Mem) (NX : Nat) : Option Ef := match h1 args M NX with
  | some e => some e
  | none => h2 args M NX
theorem HkOk.alt {P : Program} {B ng : Nat} {f : FuncId} {h1 h2 : List SV → Mem → Nat → Option Ef} (k1 : HkOk P B ng f h1) (k2 : HkOk P B ng f h2) : HkOk P B ng f (hookAlt h1 h2) := by
  intro args M NX e h hob ha
  unfold hookAlt at h
  split at h
  · rename_i e' he
    cases h
    exact k1 args M NX _ he hob ha
  · exact k2 args M NX _ h hob ha
end Go.Sx

set_option linter.unusedVariables false
namespace Go.Sx
open Go.RowKit

/-- a call at the very arguments and the very memory that a contract names -/
def hookAt (args0 : List SV) (m0 : Mem) (nx0 : Nat) (v : SV) (m1 : Mem) (nx1 : Nat) (args : List SV) (m : Mem) (nx : Nat) : Option Ef :=
  bif v.lt nx1 then some ⟨v, m1, nx1, .eff, [args = args0, m = m0, nx = nx0]⟩ else none
theorem HkOk.at_ {P : Program} {B ng : Nat} {f : FuncId} {args0 : List SV} {m0 : Mem} {nx0 : Nat} {v : SV} {m1 : Mem} {nx1 : Nat} (h : FnE P B ng f args0 m0 nx0 ⟨v, m1, nx1, .eff, []⟩) : HkOk P B ng f (hookAt args0 m0 nx0 v m1 nx1) := by
  intro args m nx e he hob ha
  unfold hookAt at he
  cases hb : v.lt nx1 with
  | false => rw [hb] at he; cases he
  | true =>
    rw [hb, cond_true] at he
    cases he
    have e1 : args = args0 := hob (args = args0) (by simp)
    have e2 : m = m0 := hob (m = m0) (by simp)
    have e3 : nx = nx0 := hob (nx = nx0) (by simp)
    subst e1 e2 e3
    exact ⟨⟨hb, .inl h⟩, trivial⟩

end Go.Sx

set_option linter.unusedVariables false
namespace Go.Sx
open Go.RowKit Go.ChangeShapes Go.WideShapes

/-- what a piece that nothing writes must be -/
structure SegRo (ρ : Env) (nx : Nat) (k : Nat) (s : Seg) (W : World) : Prop where
  own : s.own = false
  grow : s.grow = false
  nxt : s.nxt = false
  len : s.d.len = s.n
  cap : s.d.len ≤ (ρ k).cap
  nil : (ρ k).isNil = true → (ρ k).cap = 0
  cell : ∀ j x, s.d.scs[j]? = some x → W.cell? ⟨(ρ k).blk, (ρ k).off + j, none⟩ = some (x.den ρ)
  lt : k < nx
  flat : s.d.lt nx = true
theorem memG {ng nx : Nat} {m : Mem} {ρ : Env} {W : World} (h : ∀ k s, find m k = some s → SegRo ρ nx k s W) (hg : ∀ g, g < ng → (ρ g).blk = g ∧ (ρ g).off = 0) (hn : ng ≤ nx) : MemOk W.heap.size ng ρ m nx W := by
  refine ⟨fun k s hk => (h k s hk).lt, fun k s hk => ?_, fun k k' s s' hk hk' _ ho => ?_, Nat.le_refl _, hg, hn, fun k s hk => ⟨(h k s hk).flat, fun a => (by rw [(h k s hk).nxt] at a; cases a)⟩⟩
  · have H := h k s hk
    refine ⟨fun a => (by rw [H.own] at a; cases a), fun _ => H.len, H.cap, H.nil, H.cell, fun a => (by rw [H.own] at a; cases a), fun a => (by rw [H.nxt] at a; cases a), fun a => (by rw [H.grow] at a; cases a)⟩
  · rcases ho with ho | ho
    · rw [(h k s hk).own] at ho; cases ho
    · rw [(h k' s' hk').own] at ho; cases ho
/-- a law's call, from its contract -/
theorem lawCallG {P : Program} {W : World} {ng nx : Nat} {f : FuncId} {args : List SV} {m : Mem} {ρ : Env} (hm : MemOk W.heap.size ng ρ m nx W) {e : Ef} (hv : e.v = .one (.s (.b true)))
    (hf : FnE P W.heap.size ng f args m nx e) {vs : Array Value} (hvs : vs.toList = args.map (SV.den ρ)) :
    Calls P f vs W fun en W' => en = .returned (.bool true) ∧ Below W.heap.size W W' := by
  have := hf.2 _ W hm
  rw [← hvs] at this
  refine this.mono fun en W' ⟨ρ', he, hp⟩ => ⟨?_, hp.frame.below⟩
  rw [he, hv]; rfl

section
variable {H : Type} {enc : TypeId × Value → H} {P : Program} {W : World}
theorem trodPtr_below {W' : World} {t e : TypeId} {cs : Array Value} {fuel : Nat} {d : DataW H} {p : List MemPlace} (ht : P.underlying t = some (.pointer e)) (hl : laidOutB P = true) (hr : P.readableRec t = true) (hrow : t < P.types.size)
    (h : DataW.trod enc P W 0 (fun _ => true) true fuel t cs.toList = some (d, p)) (hb : Below W.heap.size W W') (hlt : ∀ x ∈ p, x.block < W.heap.size) :
    ∃ fuel', DataW.trod enc P W' 0 (fun b => decide (b < W.heap.size)) true fuel' t cs.toList = some (d, p) := by
  have one : ∃ v : Value, cs.toList = v.cells.toList := by
    rcases DataW.trod_pointer ht h with ⟨h1, _⟩ | ⟨a, _, _, _, _, h1, _, _, _⟩
    · exact ⟨.pointer none, h1⟩
    · exact ⟨.pointer (some a), h1⟩
  obtain ⟨v, hv⟩ := one
  rw [hv] at h ⊢
  exact Below.trod hl hr hrow ⟨fuel, h⟩ hb hlt
/-- a law's statement, behind the call: one variable is named, and holds what it held -/
theorem lawPostV {s : ChangeSpec} {fn : Func} {ds gs : List (DataW H)} {before : List MemPlace} {args : Array Value} {W' : World} {tb tv te : TypeId} {nm : String} {g : Nat} (hW : DataW.Whole enc P fn.params.toList s.vars false W args.toList ds gs before) (hvars : s.vars = [nm])
    (hs : ∀ g1, s.fn H (ds ++ [g1]) = { results := [.lit (.bool true)], args := ds, vars := [g1] }) (hrt : fn.resultTypes = #[tb]) (htb : P.underlying tb = some .bool) (hl : laidOutB P = true) (hr : ∀ t ∈ fn.params.toList, P.readableRec t = true ∧ t < P.types.size)
    (hgn : P.globalNamed nm = some g) (htv : (P.globals[g]?).map (·.type) = some tv) (htp : P.underlying tv = some (.pointer te)) (hrv : P.readableRec tv = true ∧ tv < P.types.size)
    (hb : Below W.heap.size W W') : s.post enc P fn false true false false W args (.bool true) W' := by
  have hlt : ∀ x ∈ before, x.block < W.heap.size := fun x hx => hW.lt x hx
  have hW' := hW
  obtain ⟨p, q, hA, hV, e, _, _⟩ := hW
  rw [hvars] at hV
  obtain ⟨g', t, cs, fuel, d, p', rfl, h1, h2, h3, h4, h5⟩ := trodVars_one hV
  obtain rfl := Option.some.inj (hgn.symm.trans h1)
  obtain rfl := Option.some.inj (htv.symm.trans h2)
  have hp : ∀ x ∈ p, x.block < W.heap.size := fun x hx => hlt x (by rw [e]; exact List.mem_append_left _ hx)
  have hq : ∀ x ∈ q, x.block < W.heap.size := fun x hx => hlt x (by rw [e]; exact List.mem_append_right _ hx)
  have hp' : ∀ x ∈ p', x.block < W.heap.size := fun x hx => hq x (by rw [h5]; exact List.mem_append_right _ hx)
  have gB : g < W.heap.size := by
    simp only [World.var?, hgn, Option.bind_some] at h3
    split at h3
    · rename_i hb
      exact (Array.getElem?_eq_some_iff.1 hb).1
    · cases h3
  obtain ⟨fuel', h6⟩ := trodPtr_below htp hl hrv.1 hrv.2 h4 hb hp'
  refine ⟨ds, [d], before, [], p, q, hW', ?_, ?_, ?_, World.keptBut_mono (fun x f => f.elim) (hb.frame (fun _ => False)), fun h => by cases h⟩
  · rw [hs, hrt]
    exact trodAll_mk1 (shut_bool htb true)
  · rw [hs]
    exact belowAll hl hb hr hA hp
  · rw [hs, hvars, h5]
    exact trodVars_mk1 hgn htv (var?_below hb hgn gB h3) h6
end
end Go.Sx

set_option linter.unusedVariables false
namespace Go.Sx
open Go.RowKit

/-! ### A call within a larger memory -/
def dropK (ks : List Nat) : Mem → Mem
  | [] => []
  | (k, s) :: r => bif ks.any (Nat.beq k) then dropK ks r else (k, s) :: dropK ks r
theorem any_beq {ks : List Nat} {k : Nat} : ks.any (Nat.beq k) = true ↔ k ∈ ks := by
  rw [List.any_eq_true]
  constructor
  · rintro ⟨x, hx, h⟩; rw [Nat.eq_of_beq_eq_true h]; exact hx
  · intro h; exact ⟨k, h, Nat.beq_refl k⟩
theorem find_dropK (ks : List Nat) : ∀ (m : Mem) (q : Nat), find (dropK ks m) q = if q ∈ ks then none else find m q
  | [], q => by simp [dropK, find]
  | (k, s) :: r, q => by
    simp only [dropK]
    cases hb : ks.any (Nat.beq k) with
    | true =>
      rw [cond_true, find_dropK ks r q, find_cons]
      have hk := any_beq.1 hb
      by_cases h : q ∈ ks
      · rw [if_pos h, if_pos h]
      · rw [if_neg h, if_neg h, if_neg (fun e : k = q => h (e ▸ hk))]
    | false =>
      rw [cond_false, find_cons, find_dropK ks r q, find_cons]
      by_cases h : k = q
      · subst h
        have : k ∉ ks := fun hm => by rw [any_beq.2 hm] at hb; cases hb
        rw [if_pos rfl, if_pos rfl, if_neg this]
      · rw [if_neg h, if_neg h]
theorem find_app (m r : Mem) (q : Nat) : find (m ++ r) q = match find m q with
    | some s => some s
    | none => find r q := by
  induction m with
  | nil => rfl
  | cons p m ih =>
    obtain ⟨k, s⟩ := p
    rw [List.cons_append, find_cons, find_cons]
    by_cases h : k = q
    · rw [if_pos h, if_pos h]
    · rw [if_neg h, if_neg h, ih]
theorem find_keys {m : Mem} {q : Nat} : find m q = none ↔ q ∉ m.map (·.1) := by
  induction m with
  | nil => simp [find]
  | cons p m ih =>
    obtain ⟨k, s⟩ := p
    rw [find_cons, List.map_cons, List.mem_cons]
    by_cases h : k = q
    · rw [if_pos h]; constructor
      · intro e; cases e
      · intro e; exact absurd (.inl h.symm) e
    · rw [if_neg h, ih]
      constructor
      · rintro h1 (e | e)
        · exact h e.symm
        · exact h1 e
      · intro h1 e; exact h1 (.inr e)

/-- a call at known arguments, over a memory that holds the pieces that are named: they turn, the others stay -/
def hookFr (args0 : List SV) (m0 : Mem) (nx0 : Nat) (v : SV) (m1 : Mem) (nx1 : Nat) (args : List SV) (M : Mem) (NX : Nat) : Option Ef :=
  bif v.lt nx1 && Nat.ble nx0 nx1 then some ⟨v, m1 ++ dropK (m0.map (·.1)) M, nx1, .eff, (args = args0) :: (NX = nx0) :: m0.map fun p => find M p.1 = some p.2⟩ else none
theorem HkOk.frame {P : Program} {B ng : Nat} {f : FuncId} {args0 : List SV} {m0 : Mem} {nx0 : Nat} {v : SV} {m1 : Mem} {nx1 : Nat} (h : FnE P B ng f args0 m0 nx0 ⟨v, m1, nx1, .eff, []⟩) : HkOk P B ng f (hookFr args0 m0 nx0 v m1 nx1) := by
  intro args M NX e he hob ha
  unfold hookFr at he
  cases hb : (v.lt nx1 && Nat.ble nx0 nx1) with
  | false => rw [hb] at he; cases he
  | true =>
    rw [hb, cond_true] at he
    cases he
    simp only [Bool.and_eq_true] at hb
    have e1 : args = args0 := hob (args = args0) (by simp)
    have e3 : NX = nx0 := hob (NX = nx0) (by simp)
    subst e1 e3
    have hs : ∀ k s, find m0 k = some s → find M k = some s := fun k s hk => hob (find M k = some s) (List.mem_cons_of_mem _ (List.mem_cons_of_mem _ (List.mem_map.2 ⟨(k, s), find_memP hk, rfl⟩)))
    obtain ⟨s1, s2⟩ := h
    have hle := Nat.le_of_ble_eq_true hb.2
    refine ⟨⟨hb.1, .inl ⟨s1, fun ρ w hm => ?_⟩⟩, trivial⟩
    have hm0 : MemOk B ng ρ m0 NX w := (PostM.drop hm hs).ok
    refine (s2 ρ w hm0).mono fun en w' ⟨ρ', hen, hp⟩ => ⟨ρ', hen, ?_⟩
    have up : PostM B ng ρ M NX w ρ M nx1 w := ⟨fun _ _ => rfl, hm.env (fun _ _ => rfl) hle, ⟨Below.refl _ _, fun _ _ _ _ => ⟨rfl, rfl⟩⟩, fun _ _ _ h => h, fun _ _ _ h => h, hle⟩
    refine PostM.lay (p := fun k => Nat.blt k NX) up hs hp (Nat.le_refl _) (fun _ _ => rfl) (fun k hk => hp.ext k (blt_iff.1 hk)) (fun k hk => blt_iff.2 hk) hm.ng_le (fun k s hk => ?_) (fun k => ?_)
    · obtain ⟨w1, w2⟩ := hm.wf k s hk
      exact ⟨blt_iff.2 (hm.keys k s hk), SegD.lt_on (fun q hq => blt_iff.2 hq) w1, fun hx => blt_iff.2 (w2 hx)⟩
    · rw [find_app, find_dropK]
      cases h1 : find m1 k with
      | some s => rfl
      | none =>
        cases h2 : find m0 k with
        | some s =>
          have : k ∈ m0.map (·.1) := Classical.byContradiction fun hn => by rw [find_keys.2 hn] at h2; cases h2
          rw [if_pos this]
        | none => rw [if_neg (find_keys.1 h2)]
end Go.Sx

set_option linter.unusedVariables false
namespace Go.Sx
open Go.RowKit

section
variable {B ng nx : Nat} {m : Mem} {ρ : Env} {w : World}
/-- a part of a piece of our own gets a key of its own; the piece is forgotten -/
theorem PostM.rekeyC (h : MemOk B ng ρ m nx w) {k : Nat} {s : Seg} (hk : find m k = some s) (ho : s.own = true) {o c : Nat} (hoc : o + c ≤ s.ext ρ k) (loc : Loc) (l1 : loc.blk = (ρ k).blk) (l2 : loc.off = (ρ k).off + o) (l3 : c ≤ loc.cap)
    (l4 : loc.isNil = true → loc.cap = 0) {d : SegD} (hd : d.len = c) (hlt : d.lt nx = true) (hc : ∀ j x, d.scs[j]? = some x → w.cell? ⟨(ρ k).blk, (ρ k).off + o + j, none⟩ = some (x.den ρ)) :
    PostM B ng ρ m nx w (envN nx ρ loc) ((nx, ⟨c, d, true, false, false⟩) :: delM m k) (nx + 1) w := by
  have he : ∀ q, q < nx → envN nx ρ loc q = ρ q := fun q hq => envN_lo hq
  have hen : envN nx ρ loc nx = loc := envN_at
  have hsk := h.segs k s hk
  have old : MemOk B ng (envN nx ρ loc) m (nx + 1) w := h.env he (by omega)
  have split : ∀ q t, find ((nx, (⟨c, d, true, false, false⟩ : Seg)) :: delM m k) q = some t → (q = nx ∧ t = ⟨c, d, true, false, false⟩) ∨ (q < nx ∧ q ≠ k ∧ find m q = some t) := by
    intro q t ht
    rw [find_cons] at ht
    by_cases e : nx = q
    · rw [if_pos e] at ht; cases ht; exact .inl ⟨e.symm, rfl⟩
    · rw [if_neg e, find_delM] at ht
      by_cases e2 : q = k
      · rw [if_pos e2] at ht; cases ht
      · rw [if_neg e2] at ht; exact .inr ⟨h.keys q t ht, e2, ht⟩
  have hr : ∀ r : Env, (⟨c, d, true, false, false⟩ : Seg).reach r nx = c := fun r => by simp [Seg.reach, Seg.ext]
  have hreach : s.reach ρ k = s.ext ρ k := by simp [Seg.reach, ho]
  have ap : ∀ q t, find m q = some t → q ≠ k → Apart (envN nx ρ loc) nx ⟨c, d, true, false, false⟩ q t := by
    intro q t ht hq
    unfold Apart
    rw [hr, hen, he q (h.keys q t ht), Seg.reach_congr (he q (h.keys q t ht)), l1, l2]
    rcases h.dis k q s t hk ht (Ne.symm hq) (.inl ho) with hx | hx
    · exact .inl hx
    · refine .inr fun j j' hj hj' => ?_
      have := hx (o + j) j' (by rw [hreach]; omega) hj'
      omega
  refine ⟨he, ⟨fun q t ht => ?_, fun q t ht => ?_, fun q q' t t' ht ht' hne hoo => ?_, h.base, old.glob, old.ng_le, fun q t ht => ?_⟩, ⟨Below.refl _ _, fun _ _ _ _ => ⟨rfl, rfl⟩⟩, ?_, ?_, by omega⟩
  · rcases split q t ht with ⟨rfl, _⟩ | ⟨h1, _, _⟩ <;> omega
  · rcases split q t ht with ⟨rfl, rfl⟩ | ⟨_, _, h2⟩
    · refine ⟨fun _ hp => ?_, fun _ => hd, ?_, fun e => ?_, fun j x hx => ?_, fun _ j hj => ?_, fun e => (by cases e), fun e => (by cases e)⟩
      · rw [hen, l1]
        have hp' : 0 < c := hp
        exact hsk.ours ho (by omega)
      · rw [hen]; show d.len ≤ _; rw [hd]; exact l3
      · rw [hen] at e ⊢; exact l4 e
      · rw [hen, l1, l2, hc j x hx, Sc.den_congr he (SegD.scs_lt hlt x (List.mem_of_getElem? hx))]
      · rw [hen, l1, l2, Nat.add_assoc]
        have hj' : j < c := hj
        exact hsk.room ho (o + j) (by omega)
    · exact old.segs q t h2
  · rcases split q t ht with ⟨rfl, rfl⟩ | ⟨_, h1, h2⟩ <;> rcases split q' t' ht' with ⟨rfl, rfl⟩ | ⟨_, h1', h2'⟩
    · exact absurd rfl hne
    · exact ap q' t' h2' h1'
    · rcases ap q t h2 h1 with hx | hx
      · exact .inl (Ne.symm hx)
      · exact .inr fun j j' hj hj' e => hx j' j hj' hj e.symm
    · exact old.dis q q' t t' h2 h2' hne hoo
  · rcases split q t ht with ⟨rfl, rfl⟩ | ⟨_, _, h2⟩
    · exact ⟨SegD.lt_mono (by omega) hlt, fun e => by cases e⟩
    · exact old.wf q t h2
  · rintro b o' hb ⟨q, t, ht, g1, g2, g3, g4⟩
    rcases split q t ht with ⟨rfl, rfl⟩ | ⟨_, _, h2⟩
    · rw [hen, l1] at g2
      rw [hen, l2] at g3 g4
      have g4' : o' < (ρ k).off + o + c := g4
      exact ⟨k, s, hk, ho, g2, by omega, by omega⟩
    · have e := he q (h.keys q t h2)
      rw [Seg.ext_congr e] at g4
      rw [e] at g2 g3 g4
      exact ⟨q, t, h2, g1, g2, g3, g4⟩
  · rintro b o' hb ⟨q, t, ht, g2, g3, g4⟩
    rcases split q t ht with ⟨rfl, rfl⟩ | ⟨_, _, h2⟩
    · rw [hr] at g4
      rw [hen, l1] at g2
      rw [hen, l2] at g3 g4
      exact ⟨k, s, hk, g2, by omega, by rw [hreach]; omega⟩
    · have e := he q (h.keys q t h2)
      rw [Seg.reach_congr e] at g4
      rw [e] at g2 g3 g4
      exact ⟨q, t, h2, g2, g3, g4⟩
end

section
variable {P : Program} {B : Nat} {cx : Cx} {sz : Nat} {R : Ex → St → Prop} {s : St} {code : List Code} {base : Nat}

theorem Ok.putT {sz : Nat} {ρ ρ' : Env} {t : TM} {m m' : Mem} {nx nx' : Nat} {a : Act} {w : World} (hok : Ok B cx sz ρ t m nx a w) (hp : PostM B cx.ng ρ m nx w ρ' m' nx' w) {d : Nat} {v v' : SV} (hd : find t d = some v) (hv : v'.den ρ' = v.den ρ) (hlt : v'.lt nx' = true) : Ok B cx sz ρ' ((d, v') :: t) m' nx' a w := by
  have hok2 := hok.post hp
  refine ⟨⟨fun i u hu => ?_, fun i u hu => ?_⟩, hok2.size, hok2.mem, hok2.noDefer⟩
  · rw [find_cons] at hu
    by_cases e : d = i
    · rw [if_pos e] at hu
      cases hu
      subst e
      rw [hok.tm.val d _ hd, hv]
    · rw [if_neg e] at hu; exact hok2.tm.val i u hu
  · rw [find_cons] at hu
    by_cases e : d = i
    · rw [if_pos e] at hu; cases hu; exact hlt
    · rw [if_neg e] at hu; exact hok2.tm.wf i u hu

/-- a slice that grew: nil, or with so many spare cells -/
theorem Tri.freeze {k d : Nat} {g : Seg} {l : List (BitVec 8)} (hk : find s.m k = some g) (hg : g.grow = true) (ho : g.own = true) (hd : g.d = .d8 l) (ht : find s.t d = some (.one (.s (.osl k l.length))))
    (h1 : ∀ c, l.length ≤ c → Tri P B cx sz base code ⟨(d, .one (.s (.sl s.nx 0 l.length c))) :: s.t, (s.nx, ⟨c, .d8 (l ++ List.replicate (c - l.length) 0), true, false, false⟩) :: delM s.m k, s.nx + 1⟩ R)
    (h0 : l = [] → Tri P B cx sz base code ⟨(d, .one (.s .sl0)) :: s.t, delM s.m k, s.nx⟩ R) : Tri P B cx sz base code s R := by
  intro hng hbs ρ a w hok
  have hsk := hok.mem.segs k g hk
  have hcap := hsk.cap
  rw [hd] at hcap
  have hlen : l.length ≤ (ρ k).cap := hcap
  cases hn : (ρ k).isNil with
  | true =>
    have h2 := hsk.nil hn
    have h3 : l = [] := List.eq_nil_of_length_eq_zero (by omega)
    have hp := PostM.drop hok.mem (m' := delM s.m k) fun q t hq => by
      rw [find_delM] at hq
      by_cases e : q = k
      · rw [if_pos e] at hq; cases hq
      · rw [if_neg e] at hq; exact hq
    have hok2 := hok.putT hp ht (v' := .one (.s .sl0)) (by subst h3; simp [SV.den, SV0.den, Sc.den, hn, h2]) rfl
    exact wpCs_mono (fun e a2 w2 q => Fin.of_later (hp.low hbs) (Nat.le_refl _) q) _ a w (h0 h3 hng hbs ρ a w hok2)
  | false =>
    have hext : g.ext ρ k = (ρ k).cap := by simp [Seg.ext, hg]
    have hp := PostM.rekeyC hok.mem hk ho (o := 0) (c := (ρ k).cap) (by rw [hext]; omega) (ρ k) rfl rfl (Nat.le_refl _) hsk.nil (d := .d8 (l ++ List.replicate ((ρ k).cap - l.length) 0)) (by show (l ++ List.replicate ((ρ k).cap - l.length) 0).length = _; rw [List.length_append, List.length_replicate]; omega) rfl (fun j x hx => by
      have hx' : ((l ++ List.replicate ((ρ k).cap - l.length) (0 : BitVec 8)).map Sc.u8)[j]? = some x := hx
      rw [Nat.add_zero]
      rcases Nat.lt_or_ge j l.length with hj | hj
      · refine hsk.cell j x ?_
        rw [hd]
        show (l.map Sc.u8)[j]? = some x
        rw [List.map_append, List.getElem?_append_left (by rw [List.length_map]; exact hj)] at hx'
        exact hx'
      · rw [List.map_append, List.getElem?_append_right (by rw [List.length_map]; exact hj), List.length_map, List.map_replicate, List.getElem?_replicate] at hx'
        split at hx'
        · rename_i hlt
          cases hx'
          have := hsk.zero hg ho j (.int .u8 0) (by rw [hd]; rfl) (by rw [hd]; exact hj) (by omega)
          exact this
        · cases hx')
    have hok2 := hok.putT hp ht (v' := .one (.s (.sl s.nx 0 l.length (ρ k).cap))) (by simp [SV.den, SV0.den, Sc.den, envN_at, hn]) (by simp [SV.lt, SV0.lt, Sc.lt])
    exact wpCs_mono (fun e a2 w2 q => Fin.of_later (hp.low hbs) (Nat.le_refl _) q) _ a w (h1 _ hlen hng (by show base ≤ s.nx + 1; omega) _ a w hok2)

/-- a slice of a piece of our own under a key of its own; the rest of the piece is forgotten -/
theorem Tri.thaw {k d o n c N : Nat} {D : List (BitVec 8)} (hk : find s.m k = some ⟨N, .d8 D, true, false, false⟩) (ht : find s.t d = some (.one (.s (.sl k o n c)))) (hn : o + n ≤ D.length) (hc : n ≤ c)
    (h : Tri P B cx sz base code ⟨(d, .one (.s (.osl s.nx n))) :: s.t, (s.nx, ⟨n, .d8 ((D.drop o).take n), true, false, false⟩) :: delM s.m k, s.nx + 1⟩ R) : Tri P B cx sz base code s R := by
  intro hng hbs ρ a w hok
  have hsk := hok.mem.segs k _ hk
  have hN : D.length = N := hsk.fixed rfl
  have hp := PostM.rekeyC hok.mem hk rfl (o := o) (c := n) (by show o + n ≤ (if false = true then _ else N); simp; omega) ⟨(ρ k).blk, (ρ k).off + o, c, false⟩ rfl rfl hc (fun e => by cases e) (d := .d8 ((D.drop o).take n)) (by show ((D.drop o).take n).length = n; rw [List.length_take, List.length_drop]; omega) rfl (fun j x hx => by
    have hx' : (((D.drop o).take n).map Sc.u8)[j]? = some x := hx
    rw [Nat.add_assoc]
    refine hsk.cell (o + j) x ?_
    show (D.map Sc.u8)[o + j]? = some x
    rw [List.getElem?_map] at hx' ⊢
    have hj : j < n := by
      rcases Nat.lt_or_ge j n with hj | hj
      · exact hj
      · rw [List.getElem?_eq_none (by rw [List.length_take]; omega)] at hx'; cases hx'
    rw [List.getElem?_take, if_pos hj, List.getElem?_drop] at hx'
    exact hx')
  have hok2 := hok.putT hp ht (v' := .one (.s (.osl s.nx n))) (by simp [SV.den, SV0.den, Sc.den, envN_at]) (by simp [SV.lt, SV0.lt, Sc.lt])
  exact wpCs_mono (fun e a2 w2 q => Fin.of_later (hp.low hbs) (Nat.le_refl _) q) _ a w (h hng (by show base ≤ s.nx + 1; omega) _ a w hok2)
end
end Go.Sx

set_option linter.unusedVariables false
namespace Go.Sx
open Go.RowKit

section
variable {P : Program} {B : Nat} {cx : Cx} {sz : Nat} {R : Ex → St → Prop} {s : St} {code : List Code} {base : Nat}
end
end Go.Sx

set_option linter.unusedVariables false
namespace Go.Sx
open Go.RowKit

/-- the piece behind a call is held as the one ahead of it -/
structure Alike (s s1 : Seg) : Prop where
  n : s1.n = s.n
  own : s1.own = s.own
  grow : s.grow = false
  grow1 : s1.grow = false
  nxt : s.nxt = false
  nxt1 : s1.nxt = false
  len : s1.d.len = s.d.len
theorem Alike.ext {s s1 : Seg} (h : Alike s s1) (ρ : Env) (k : Nat) : s1.ext ρ k = s.ext ρ k := by simp [Seg.ext, h.grow, h.grow1, h.n]
theorem Alike.reach {s s1 : Seg} (h : Alike s s1) (ρ : Env) (k : Nat) : s1.reach ρ k = s.reach ρ k := by simp [Seg.reach, h.own, h.ext, h.len]

/-- where the keys of the known memory lie in the larger one -/
structure Place (ng : Nat) (σ : Nat → Nat) (fk : Nat → Bool) (m0 m1 : Mem) (nx0 : Nat) (M M' : Mem) (NX : Nat) : Prop where
  lo : ∀ k, k < ng → σ k = k
  fx : ∀ k, fk k = true → σ k = k ∧ k < nx0 ∧ k < NX
  ng0 : ng ≤ nx0
  keys : ∀ k s, find m0 k = some s → k < nx0 ∧ find M (σ k) = some s ∧ s.d.on fk = true ∧ s.nxt = false
  inj : ∀ k k' s s', find m0 k = some s → find m0 k' = some s' → k ≠ k' → σ k ≠ σ k'
  back : ∀ k s1, find m1 k = some s1 → ∃ s, find m0 k = some s ∧ Alike s s1 ∧ s1.d.on fk = true
  new : ∀ q t, find M' q = some t → (∃ k, q = σ k ∧ find m1 k = some t) ∨ ((∀ k s, find m0 k = some s → q ≠ σ k) ∧ find M q = some t)

theorem Sc.lt_of_on {p : Nat → Bool} {n : Nat} (h : ∀ k, p k = true → k < n) : ∀ {x : Sc}, x.on p = true → x.lt n = true
  | .b _, _ | .i _, _ | .u8 _, _ | .u32 _, _ | .u64 _, _ | .p0, _ | .sl0, _ | .str _, _ | .f0, _ | .v _, _ => rfl
  | .p k _, hx => blt_iff.2 (h k hx)
  | .sl k _ _ _, hx => blt_iff.2 (h k hx)
  | .osl k _, hx => blt_iff.2 (h k hx)
  | .f _ x, hx => Sc.lt_of_on h (x := x) hx
  | .mv _ x, hx => Sc.lt_of_on h (x := x) hx
theorem SegD.lt_of_on {p : Nat → Bool} {n : Nat} (h : ∀ k, p k = true → k < n) {d : SegD} (hd : d.on p = true) : d.lt n = true := by
  cases d <;> try rfl
  exact List.all_eq_true.2 fun x hx => Sc.lt_of_on h (List.all_eq_true.1 hd x hx)
theorem SegOk.rho {B : Nat} {ρ ρ' : Env} {k q : Nat} {s : Seg} {w : World} {fx : Nat → Bool} (h : SegOk B ρ q s w) (e : ρ' k = ρ q) (hf : ∀ j, fx j = true → ρ' j = ρ j) (hd : s.d.on fx = true) (hn : s.nxt = false) : SegOk B ρ' k s w := by
  have ex : s.ext ρ' k = s.ext ρ q := by simp [Seg.ext, e]
  refine ⟨fun ho hp => ?_, h.fixed, by rw [e]; exact h.cap, by rw [e]; exact h.nil, fun j x hx => ?_, fun ho j hj => ?_, fun hx => (by rw [hn] at hx; cases hx), fun hg ho j z hz h1 h2 => ?_⟩
  · rw [e]; rw [ex] at hp; exact h.ours ho hp
  · rw [e, h.cell j x hx, Sc.on_congr hf (SegD.on_scs hd x (List.mem_of_getElem? hx))]
  · rw [e]; rw [ex] at hj; exact h.room ho j hj
  · rw [e] at h2 ⊢; exact h.zero hg ho j z hz h1 h2

/-- **A CALL AT ANOTHER PLACE.** -/
theorem FnE.place {P : Program} {B ng nx0 NX : Nat} {f : FuncId} {args0 args : List SV} {v : SV} {m0 m1 M M' : Mem} {nx1 : Nat} {c c' : K4} {ob ob' : List Prop} {σ : Nat → Nat} {fx : Nat → Bool}
    (h : FnE P B ng f args0 m0 nx0 ⟨v, m1, nx1, c, ob⟩) (p : Place ng σ fx m0 m1 nx0 M M' NX) (hv : v.lt 0 = true) (ha : ∀ ρ : Env, args.map (SV.den ρ) = args0.map (SV.den fun k => ρ (σ k))) :
    FnE P B ng f args M NX ⟨v, M', NX, c', ob'⟩ := by
  refine ⟨h.1, fun ρ w hm => ?_⟩
  have hfx0 : ∀ j, fx j = true → (fun k => ρ (σ k)) j = ρ j := fun j hj => by show ρ (σ j) = ρ j; rw [(p.fx j hj).1]
  have hm0 : MemOk B ng (fun k => ρ (σ k)) m0 nx0 w := by
    refine ⟨fun k s hk => (p.keys k s hk).1, fun k s hk => ?_, fun k k' s s' hk hk' hne ho => ?_, hm.base, fun g hg => by show (ρ (σ g)).blk = g ∧ (ρ (σ g)).off = 0; rw [p.lo g hg]; exact hm.glob g hg, p.ng0, fun k s hk => ?_⟩
    · obtain ⟨_, k2, k3, k4⟩ := p.keys k s hk
      exact (hm.segs (σ k) s k2).rho (q := σ k) rfl hfx0 k3 k4
    · exact hm.dis (σ k) (σ k') s s' (p.keys k s hk).2.1 (p.keys k' s' hk').2.1 (p.inj k k' s s' hk hk' hne) ho
    · obtain ⟨_, _, k3, k4⟩ := p.keys k s hk
      refine ⟨?_, fun hx => (by rw [k4] at hx; cases hx)⟩
      refine SegD.lt_of_on (fun q hq => (p.fx q hq).2.1) k3
  rw [ha ρ]
  refine (h.2 _ w hm0).mono fun en w' ⟨ρ', he, hp⟩ => ⟨ρ, ?_, ?_⟩
  · rw [he]; exact congrArg _ (SV.den_congr (n := 0) (fun k hk => absurd hk (Nat.not_lt_zero _)) hv)
  have eAt : ∀ k s, find m0 k = some s → ρ' k = ρ (σ k) := fun k s hk => hp.ext k (p.keys k s hk).1
  have hfx1 : ∀ j, fx j = true → ρ j = ρ' j := fun j hj => (hfx0 j hj).symm.trans (hp.ext j (p.fx j hj).2.1).symm
  have ownM : ∀ b o, Owns (fun k => ρ (σ k)) m0 b o → Owns ρ M b o := by
    rintro b o ⟨k, s, hk, g1, g2, g3, g4⟩
    exact ⟨σ k, s, (p.keys k s hk).2.1, g1, g2, g3, g4⟩
  have other : ∀ q s, (∀ k t, find m0 k = some t → q ≠ σ k) → find M q = some s → ∀ j, j < s.reach ρ q → w'.cell? ⟨(ρ q).blk, (ρ q).off + j, none⟩ = w.cell? ⟨(ρ q).blk, (ρ q).off + j, none⟩ ∧ w'.frozen? ⟨(ρ q).blk, (ρ q).off + j, none⟩ = w.frozen? ⟨(ρ q).blk, (ρ q).off + j, none⟩ := by
    intro q s hq hs j hj
    refine hp.frame.cell _ _ ((hm.segs q s hs).lt hj) ?_
    rintro ⟨k, t, hk, g1, g2, g3, g4⟩
    have hsk := (p.keys k t hk).2.1
    rcases hm.dis q (σ k) s t hs hsk (hq k t hk) (.inr g1) with hx | hx
    · exact hx g2.symm
    · have hr : t.reach ρ (σ k) = t.ext ρ (σ k) := by simp [Seg.reach, g1]
      have g3' : (ρ (σ k)).off ≤ (ρ q).off + j := g3
      have g4' : (ρ q).off + j < (ρ (σ k)).off + t.ext ρ (σ k) := g4
      exact hx j ((ρ q).off + j - (ρ (σ k)).off) hj (by rw [hr]; omega) (by omega)
  have segN : ∀ q t, find M' q = some t → SegOk B ρ q t w' := by
    intro q t hq
    rcases p.new q t hq with ⟨k, rfl, hk⟩ | ⟨h1, h2⟩
    · obtain ⟨s, hs, al, on⟩ := p.back k t hk
      exact (hp.ok.segs k t hk).rho (eAt k s hs).symm hfx1 on al.nxt1
    · exact (hm.segs q t h2).congr (other q t h1 h2)
  have apM : ∀ k s t q u, find m0 k = some s → Alike s t → find M q = some u → σ k ≠ q → (t.own = true ∨ u.own = true) → Apart ρ (σ k) t q u := by
    intro k s t q u hk al hu hne ho
    unfold Apart
    rw [al.reach]
    exact hm.dis (σ k) q s u (p.keys k s hk).2.1 hu hne (by rw [al.own] at ho; exact ho)
  refine ⟨fun _ _ => rfl, ⟨fun q t hq => ?_, segN, fun q q' t t' hq hq' hne ho => ?_, hp.ok.base, hm.glob, hm.ng_le, fun q t hq => ?_⟩, ⟨hp.frame.below, fun b o hb hn => hp.frame.cell b o hb fun ho => hn (ownM b o ho)⟩, ?_, ?_, Nat.le_refl _⟩
  · rcases p.new q t hq with ⟨k, rfl, hk⟩ | ⟨h1, h2⟩
    · obtain ⟨s, hs, _⟩ := p.back k t hk
      exact hm.keys _ s (p.keys k s hs).2.1
    · exact hm.keys q t h2
  · rcases p.new q t hq with ⟨k, rfl, hk⟩ | ⟨h1, h2⟩ <;> rcases p.new q' t' hq' with ⟨k', rfl, hk'⟩ | ⟨h1', h2'⟩
    · obtain ⟨s, hs, al, _⟩ := p.back k t hk
      obtain ⟨s', hs', al', _⟩ := p.back k' t' hk'
      unfold Apart
      rw [al.reach, al'.reach]
      exact hm.dis (σ k) (σ k') s s' (p.keys k s hs).2.1 (p.keys k' s' hs').2.1 hne (by rw [al.own, al'.own] at ho; exact ho)
    · obtain ⟨s, hs, al, _⟩ := p.back k t hk
      exact apM k s t q' t' hs al h2' hne ho
    · obtain ⟨s', hs', al', _⟩ := p.back k' t' hk'
      rcases apM k' s' t' q t hs' al' h2 (Ne.symm hne) (Or.symm ho) with hx | hx
      · exact .inl (Ne.symm hx)
      · exact .inr fun j j' hj hj' e => hx j' j hj' hj e.symm
    · exact hm.dis q q' t t' h2 h2' hne ho
  · rcases p.new q t hq with ⟨k, rfl, hk⟩ | ⟨h1, h2⟩
    · obtain ⟨s, hs, al, on⟩ := p.back k t hk
      exact ⟨SegD.lt_of_on (fun j hj => (p.fx j hj).2.2) on, fun hx => (by rw [al.nxt1] at hx; cases hx)⟩
    · exact hm.wf q t h2
  · rintro b o hb ⟨q, t, hq, g1, g2, g3, g4⟩
    rcases p.new q t hq with ⟨k, rfl, hk⟩ | ⟨h1, h2⟩
    · obtain ⟨s, hs, al, _⟩ := p.back k t hk
      rw [al.ext] at g4
      exact ⟨σ k, s, (p.keys k s hs).2.1, by rw [← al.own]; exact g1, g2, g3, g4⟩
    · exact ⟨q, t, h2, g1, g2, g3, g4⟩
  · rintro b o hb ⟨q, t, hq, g2, g3, g4⟩
    rcases p.new q t hq with ⟨k, rfl, hk⟩ | ⟨h1, h2⟩
    · obtain ⟨s, hs, al, _⟩ := p.back k t hk
      rw [al.reach] at g4
      exact ⟨σ k, s, (p.keys k s hs).2.1, g2, g3, g4⟩
    · exact ⟨q, t, h2, g2, g3, g4⟩
end Go.Sx
