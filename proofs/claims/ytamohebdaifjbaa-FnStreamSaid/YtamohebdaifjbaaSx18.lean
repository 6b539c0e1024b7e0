/- Code, run symbolically; and triples over symbolic states, with the loop rule. Triples over symbolic states; a function's contract from its body. A function's contract from its body. Types of a program, read off by the kernel. Conditions: none; plain definitions and theorems over any program. -/
import Derived.Test.YtamohebdaifjbaaSx15
import Derived.LoopN
import Derived.Scope
set_option linter.unusedVariables false
namespace Go.Sx
open Go.RowKit

inductive Ex where
  | n
  | x (id : Nat)
  | r

def Ex.to : Ex → Exit
  | .n => .normal
  | .x id => .exit id
  | .r => .ret

abbrev Res := Option (Ex × St × List Prop)

def addOb (ob : List Prop) : Res → Res
  | some (e, s, ob') => some (e, s, ob ++ ob')
  | none => none

def iter (f : St → Res) : Nat → St → Res
  | 0, _ => none
  | n + 1, s => match f s with
    | some (.n, s', ob) => addOb ob (iter f n s')
    | r => r

def condX (cx : Cx) (orc : Orc) (t : TM) (c : Operand) : Option (Bool × List Prop) :=
  match ev cx t c with
  | some (.one (.s (.b x))) => match (match c with
      | .tmp d => orc t d
      | _ => none) with
    | some b => some (b, [x = b])
    | none => match x with
      | true => some (true, [])
      | false => some (false, [])
  | _ => none

/-- code, run: lim bounds the rounds of each loop -/
def exec (cx : Cx) (H : Hook) (sz lim : Nat) (orc : Orc) : Code → St → Res
  | .skip, s => some (.n, s, [])
  | .region _ ops draw, s => match (match draw with
      | true => drawX cx H sz orc ops.toList s
      | false => runL cx H sz orc ops.toList ops.toList s) with
    | some (s', ob) => some (.n, s', ob)
    | none => none
  | .seq a b, s => match exec cx H sz lim orc a s with
    | some (.n, s', ob) => addOb ob (exec cx H sz lim orc b s')
    | r => r
  | .cond c a b, s => match condX cx orc s.t c with
    | some (true, ob) => addOb ob (exec cx H sz lim orc a s)
    | some (false, ob) => addOb ob (exec cx H sz lim orc b s)
    | none => none
  | .block id c, s => match exec cx H sz lim orc c s with
    | some (.x i, s', ob) => bif Nat.beq i id then some (.n, s', ob) else some (.x i, s', ob)
    | r => r
  | .loop c, s => iter (fun s => exec cx H sz lim orc c s) lim s
  | .exit id, s => some (.x id, s, [])
  | .scope c, s => exec cx H sz lim orc c s
  | .ret, s => some (.r, s, [])
  | _, _ => none

section
variable {P : Program} {cx : Cx} {H : Hook} {B sz lim : Nat} {orc : Orc}

theorem Ends.trans {ρ : Env} {m m1 : Mem} {nx nx1 : Nat} {w : World} {t1 : TM} {s : St} {a1 a2 : Act} {w1 w2 : World}
    {ρ1 : Env} (h : PostM B cx.ng ρ m nx w ρ1 m1 nx1 w1) (k : Ends B cx sz ρ1 m1 nx1 w1 s a2 w2) : Ends B cx sz ρ m nx w s a2 w2 :=
  let ⟨ρ2, h1, h2⟩ := k; ⟨ρ2, h1, h.trans h2⟩

theorem condX_spec {ρ : Env} {t : TM} {nx : Nat} {a : Act} (ht : TmOk ρ t nx a) (hg : GlOk cx ρ nx) {c : Operand} {b : Bool} {ob : List Prop} (h : condX cx orc t c = some (b, ob)) (hob : ∀ p ∈ ob, p) : a.eval c = .bool b := by
  unfold condX at h
  split at h <;> first | (cases h; done) | skip
  rename_i x hx
  have e := (ev_den ht hg hx).1
  rw [e]
  split at h
  · cases h
    have : x = b := hob _ (by simp)
    rw [this]; rfl
  · split at h <;> (cases h; rfl)

theorem addOb_spec {ob ob2 : List Prop} {r : Res} {e : Ex} {s : St} (h : addOb ob r = some (e, s, ob2)) : ∃ ob', r = some (e, s, ob') ∧ ob2 = ob ++ ob' := by
  unfold addOb at h
  split at h
  · cases h; exact ⟨_, rfl, rfl⟩
  · cases h

/-- what a run says -/
def Runs (P : Program) (B : Nat) (cx : Cx) (sz : Nat) (c : Code) (f : St → Res) : Prop :=
  ∀ (s s' : St) (ex : Ex) (ob : List Prop) (ρ : Env) (a : Act) (w : World) (Q : Exit → Act → World → Prop), f s = some (ex, s', ob) → (∀ p ∈ ob, p) → Ok B cx sz ρ s.t s.m s.nx a w →
    (∀ a' w', Ends B cx sz ρ s.m s.nx w s' a' w' → Q ex.to a' w') → c.wp P Q a w

theorem iter_rounds {c : Code} {f : St → Res} (hc : Runs P B cx sz c f) : ∀ (n : Nat) (s s' : St) (ex : Ex) (ob : List Prop) (ρ : Env) (a : Act) (w : World) (Q : Exit → Act → World → Prop), iter f n s = some (ex, s', ob) → (∀ p ∈ ob, p) →
    Ok B cx sz ρ s.t s.m s.nx a w → (∀ a' w', Ends B cx sz ρ s.m s.nx w s' a' w' → Q ex.to a' w') → Code.rounds P c Q n a w
  | 0, s, s', ex, ob, ρ, a, w, Q, h, _, _, _ => by cases h
  | n + 1, s, s', ex, ob, ρ, a, w, Q, h, hob, hok, hQ => by
    simp only [iter] at h
    show c.wp P (Exit.then (Code.rounds P c Q n) Q) a w
    split at h
    · rename_i s1 ob1 hf
      obtain ⟨ob', h1, rfl⟩ := addOb_spec h
      refine hc s s1 .n ob1 ρ a w _ hf (fun p hp => hob p (by simp [hp])) hok fun a' w' ⟨ρ', hok', hp'⟩ => ?_
      exact iter_rounds hc n s1 s' ex ob' ρ' a' w' Q h1 (fun p hp => hob p (by simp [hp])) hok' fun a2 w2 h2 => hQ a2 w2 (Ends.trans (t1 := []) (a1 := a) hp' h2)
    · rename_i r hr
      cases hf : f s with
      | none => rw [hf] at h; cases h
      | some q =>
        obtain ⟨ex', s1, ob1⟩ := q
        rw [hf] at h
        cases h
        refine hc s s' ex ob ρ a w _ hf hob hok fun a' w' he => ?_
        cases ex with
        | n => exact (hr _ _ hf).elim
        | x id => exact hQ a' w' he
        | r => exact hQ a' w' he

/-- **CODE.** -/
theorem exec_wp (hmix : P.follows .mixedOrders = true) (hT : TysOk P cx.T) (hH : HookOk P B cx.ng H) : ∀ c, Runs P B cx sz c (exec cx H sz lim orc c) := by
  intro c
  induction c with
  | skip => intro s s' ex ob ρ a w Q h hob hok hQ; cases h; exact wp_skip (hQ a w ⟨ρ, hok, PostM.refl hok.mem⟩)
  | region id ops draw =>
    intro s s' ex ob ρ a w Q h hob hok hQ
    simp only [exec] at h
    cases draw with
    | true =>
      dsimp only at h
      split at h <;> first | (cases h; done) | skip
      rename_i s1 ob1 hd
      cases h
      exact draw_wp hmix hT hH hd hob hok hQ
    | false =>
      dsimp only at h
      split at h <;> first | (cases h; done) | skip
      rename_i s1 ob1 hd
      cases h
      refine wp_region_list ?_
      have := runL_wp (P := P) hT hH (Q := Q) ops.toList s s' ob ρ a w hd hob hok hQ
      simpa using this
  | seq x y ihx ihy =>
    intro s s' ex ob ρ a w Q h hob hok hQ
    simp only [exec] at h
    refine wp_seq ?_
    split at h
    · rename_i s1 ob1 hf
      obtain ⟨ob', h1, rfl⟩ := addOb_spec h
      refine ihx s s1 .n ob1 ρ a w _ hf (fun p hp => hob p (by simp [hp])) hok fun a' w' ⟨ρ', hok', hp'⟩ => ?_
      exact ihy s1 s' ex ob' ρ' a' w' Q h1 (fun p hp => hob p (by simp [hp])) hok' fun a2 w2 h2 => hQ a2 w2 (Ends.trans (t1 := []) (a1 := a) hp' h2)
    · rename_i r hr
      cases hf : exec cx H sz lim orc x s with
      | none => rw [hf] at h; cases h
      | some q =>
        obtain ⟨ex', s1, ob1⟩ := q
        rw [hf] at h
        cases h
        refine ihx s s' ex ob ρ a w _ hf hob hok fun a' w' he => ?_
        cases ex with
        | n => exact (hr _ _ hf).elim
        | x id => exact hQ a' w' he
        | r => exact hQ a' w' he
  | cond c x y ihx ihy =>
    intro s s' ex ob ρ a w Q h hob hok hQ
    simp only [exec] at h
    split at h <;> first | (cases h; done) | skip
    · rename_i ob1 hc
      obtain ⟨ob', h1, rfl⟩ := addOb_spec h
      refine wp_cond_true (condX_spec hok.tm hok.mem.gl hc fun p hp => hob p (by simp [hp])) ?_
      exact ihx s s' ex ob' ρ a w Q h1 (fun p hp => hob p (by simp [hp])) hok hQ
    · rename_i ob1 hc
      obtain ⟨ob', h1, rfl⟩ := addOb_spec h
      refine wp_cond_false (condX_spec hok.tm hok.mem.gl hc fun p hp => hob p (by simp [hp])) ?_
      exact ihy s s' ex ob' ρ a w Q h1 (fun p hp => hob p (by simp [hp])) hok hQ
  | block id c ih =>
    intro s s' ex ob ρ a w Q h hob hok hQ
    simp only [exec] at h
    refine wp_block ?_
    split at h
    · rename_i i s1 ob1 hf
      cases hb : Nat.beq i id with
      | true =>
        rw [hb, cond_true] at h
        cases h
        have e := Nat.eq_of_beq_eq_true hb
        subst e
        refine ih s s' (.x i) ob ρ a w _ hf hob hok fun a' w' he => ?_
        show Exit.inBlock i Q (.exit i) a' w'
        simp only [Exit.inBlock, if_true]
        exact hQ a' w' he
      | false =>
        rw [hb, cond_false] at h
        cases h
        refine ih s s' (.x i) ob ρ a w _ hf hob hok fun a' w' he => ?_
        show Exit.inBlock id Q (.exit i) a' w'
        have : i ≠ id := fun e => by subst e; simp at hb
        simp only [Exit.inBlock, this, if_false]
        exact hQ a' w' he
    · rename_i r hr
      cases hf : exec cx H sz lim orc c s with
      | none => rw [hf] at h; cases h
      | some q =>
        obtain ⟨ex', s1, ob1⟩ := q
        rw [hf] at h
        cases h
        refine ih s s' ex ob ρ a w _ hf hob hok fun a' w' he => ?_
        cases ex with
        | n => exact hQ a' w' he
        | x i => exact (hr _ _ _ hf).elim
        | r => exact hQ a' w' he
  | loop c ih =>
    intro s s' ex ob ρ a w Q h hob hok hQ
    simp only [exec] at h
    exact wp_loop_rounds lim (iter_rounds ih lim s s' ex ob ρ a w Q h hob hok hQ)
  | exit id => intro s s' ex ob ρ a w Q h hob hok hQ; cases h; exact wp_exit (hQ a w ⟨ρ, hok, PostM.refl hok.mem⟩)
  | scope c ih =>
    intro s s' ex ob ρ a w Q h hob hok hQ
    simp only [exec] at h
    refine wp_scope_straight (ih s s' ex ob ρ a w _ h hob hok fun a' w' he => ?_)
    cases ex <;> exact hQ a' w' he
  | ret => intro s s' ex ob ρ a w Q h hob hok hQ; cases h; exact wp_ret (hQ a w ⟨ρ, hok, PostM.refl hok.mem⟩)
  | rangeFunc f ps a b _ _ => intro s s' ex ob ρ a w Q h hob hok hQ; cases h
  | label l => intro s s' ex ob ρ a w Q h hob hok hQ; cases h
  | goto l => intro s s' ex ob ρ a w Q h hob hok hQ; cases h
  | refuse why => intro s s' ex ob ρ a w Q h hob hok hQ; cases h

end
end Go.Sx

set_option linter.unusedVariables false
namespace Go.Sx
open Go.RowKit

/-- rows of code, one behind the other -/
def wpCs (P : Program) (Q : Exit → Act → World → Prop) : List Code → Act → World → Prop
  | [] => Q .normal
  | c :: r => c.wp P (Exit.then (wpCs P Q r) Q)

def flat : Code → List Code
  | .seq x y => flat x ++ flat y
  | c => [c]

theorem Exit.then_then {N : Act → World → Prop} {Q : Exit → Act → World → Prop} {e : Exit} {a : Act} {w : World} (h : Exit.then N Q e a w) : Exit.then N (Exit.then N Q) e a w := by
  cases e <;> exact h

theorem wpCs_append {P : Program} {Q : Exit → Act → World → Prop} : ∀ (l r : List Code) (a : Act) (w : World), wpCs P Q (l ++ r) a w → wpCs P (Exit.then (wpCs P Q r) Q) l a w
  | [], r, a, w, h => h
  | c :: l, r, a, w, h => Code.wp_mono (fun e a w q => by
      cases e with
      | normal => exact wpCs_append l r a w q
      | _ => exact q) h

theorem flat_wp {P : Program} : ∀ (c : Code) (Q : Exit → Act → World → Prop) (a : Act) (w : World), wpCs P Q (flat c) a w → c.wp P Q a w := by
  have single : ∀ (c : Code) (Q : Exit → Act → World → Prop) (a : Act) (w : World), wpCs P Q [c] a w → c.wp P Q a w := fun c Q a w h => Code.wp_mono (fun e a w q => by cases e <;> exact q) h
  intro c
  induction c with
  | seq x y ihx ihy =>
    intro Q a w h
    simp only [flat] at h
    refine wp_seq (ihx _ a w ?_)
    have := wpCs_append _ _ a w h
    refine (?_ : ∀ l a w, wpCs P (Exit.then (wpCs P Q (flat y)) Q) l a w → wpCs P (Exit.then (y.wp P Q) Q) l a w) _ a w this
    intro l
    induction l with
    | nil => intro a w h; exact ihy Q a w h
    | cons c l ih =>
      intro a w h
      refine Code.wp_mono (fun e a w q => ?_) h
      cases e with
      | normal => exact ih a w q
      | _ => exact q
  | _ => intro Q a w h; exact single _ Q a w h

section
variable (P : Program) (B : Nat) (cx : Cx) (sz : Nat)

/-- what a run from a symbolic state comes to -/
def Fin (R : Ex → St → Prop) (ρ : Env) (m : Mem) (nx : Nat) (w : World) (e : Exit) (a' : Act) (w' : World) : Prop :=
  ∃ ex s', e = Ex.to ex ∧ R ex s' ∧ Ends B cx sz ρ m nx w s' a' w'

/-- from a state: what code comes to; keys below base keep their places -/
def Tri (base : Nat) (l : List Code) (s : St) (R : Ex → St → Prop) : Prop :=
  cx.ng ≤ base → base ≤ s.nx → ∀ ρ a w, Ok B cx sz ρ s.t s.m s.nx a w → wpCs P (Fin B cx sz R ρ s.m base w) l a w

end

/-- rows of code, run -/
def execL (cx : Cx) (H : Hook) (sz lim : Nat) (orc : Orc) : List Code → St → Res
  | [], s => some (.n, s, [])
  | c :: r, s => match exec cx H sz lim orc c s with
    | some (.n, s', ob) => addOb ob (execL cx H sz lim orc r s')
    | r => r

def pickT (t : TM) : List Nat → Option TM
  | [] => some []
  | d :: r => match find t d, pickT t r with
    | some v, some t' => some ((d, v) :: t')
    | _, _ => none

def pickM (m : Mem) : List Nat → Option Mem
  | [] => some []
  | k :: r => match find m k, pickM m r with
    | some s, some m' => some ((k, s) :: m')
    | _, _ => none

/-- a state cut down: the temporaries and keys that are named, below nx -/
def cut (ts ks : List Nat) (nx : Nat) (s : St) : Option St :=
  match pickT s.t ts, pickM s.m ks with
  | some t, some m => bif t.all (fun x => x.2.lt nx) && m.all (fun x => Nat.blt x.1 nx && (x.2.d.lt nx && (!x.2.nxt || Nat.blt (x.1 + 1) nx))) then some ⟨t, m, nx⟩ else none
  | _, _ => none

theorem pickT_spec {t : TM} : ∀ {l : List Nat} {t' : TM}, pickT t l = some t' → ∀ d v, find t' d = some v → find t d = some v
  | [], t', h, d, v, hv => by cases h; cases hv
  | d0 :: r, t', h, d, v, hv => by
    simp only [pickT] at h
    split at h <;> first | (cases h; done) | skip
    rename_i v0 t1 h0 h1
    cases h
    rw [find_cons] at hv
    by_cases e : d0 = d
    · rw [if_pos e] at hv; cases hv; subst e; exact h0
    · rw [if_neg e] at hv; exact pickT_spec h1 d v hv

theorem pickM_spec {m : Mem} : ∀ {l : List Nat} {m' : Mem}, pickM m l = some m' → ∀ k s, find m' k = some s → find m k = some s
  | [], m', h, d, v, hv => by cases h; cases hv
  | d0 :: r, m', h, d, v, hv => by
    simp only [pickM] at h
    split at h <;> first | (cases h; done) | skip
    rename_i v0 t1 h0 h1
    cases h
    rw [find_cons] at hv
    by_cases e : d0 = d
    · rw [if_pos e] at hv; cases hv; subst e; exact h0
    · rw [if_neg e] at hv; exact pickM_spec h1 d v hv

section
variable {P : Program} {H : Hook} {B : Nat} {cx : Cx} {sz lim : Nat} {orc : Orc} {R R' : Ex → St → Prop} {s s' : St} {l : List Code} {base : Nat}

theorem PostM.cut {ng : Nat} {ρ ρ' : Env} {m m' m'' : Mem} {nx nx' nx'' : Nat} {w w' : World} (h : PostM B ng ρ m nx w ρ' m' nx' w') (hs : ∀ k s, find m'' k = some s → find m' k = some s)
    (hw : ∀ k s, find m'' k = some s → k < nx'' ∧ s.d.lt nx'' = true ∧ (s.nxt = true → k + 1 < nx'')) (hle : nx ≤ nx'') (hng : ng ≤ nx) : PostM B ng ρ m nx w ρ' m'' nx'' w' :=
  ⟨h.ext, ⟨fun k s hk => (hw k s hk).1, fun k s hk => h.ok.segs k s (hs k s hk), fun k k' s s' hk hk' => h.ok.dis k k' s s' (hs k s hk) (hs k' s' hk'), h.ok.base, h.ok.glob, Nat.le_trans hng hle, fun k s hk => (hw k s hk).2⟩,
    h.frame, fun b o hb ⟨k, s, hk, r⟩ => h.sub b o hb ⟨k, s, hs k s hk, r⟩, fun b o hb ⟨k, s, hk, r⟩ => h.subR b o hb ⟨k, s, hs k s hk, r⟩, hle⟩

theorem find_all {α : Type} {l : List (Nat × α)} {f : Nat × α → Bool} (h : l.all f = true) {k : Nat} {v : α} (hk : find l k = some v) : f (k, v) = true := List.all_eq_true.1 h _ (find_mem l k v hk)

theorem cut_spec {ts ks : List Nat} {nx : Nat} {s s' : St} (h : cut ts ks nx s = some s') : s'.nx = nx ∧ (∀ d v, find s'.t d = some v → find s.t d = some v ∧ v.lt nx = true) ∧
    (∀ k g, find s'.m k = some g → find s.m k = some g ∧ k < nx ∧ g.d.lt nx = true ∧ (g.nxt = true → k + 1 < nx)) := by
  unfold cut at h
  split at h <;> first | (cases h; done) | skip
  rename_i t m ht hm
  cases hb : (t.all (fun x => x.2.lt nx) && m.all (fun x => Nat.blt x.1 nx && (x.2.d.lt nx && (!x.2.nxt || Nat.blt (x.1 + 1) nx)))) with
  | false => rw [hb] at h; cases h
  | true =>
    rw [hb, cond_true] at h
    cases h
    simp only [Bool.and_eq_true] at hb
    refine ⟨rfl, fun d v hv => ⟨pickT_spec ht d v hv, find_all hb.1 hv⟩, fun k g hk => ⟨pickM_spec hm k g hk, ?_⟩⟩
    have := find_all hb.2 hk
    simp only [Bool.and_eq_true, Bool.or_eq_true, blt_iff, Bool.not_eq_true'] at this
    exact ⟨this.1, this.2.1, fun hn => by rcases this.2.2 with h | h; (rw [hn] at h; cases h); exact h⟩

theorem Ok.cut {ρ0 ρ : Env} {m0 : Mem} {nx0 : Nat} {w0 : World} {a : Act} {w : World} {ts ks : List Nat} {nx : Nat} (hok : Ok B cx sz ρ s.t s.m s.nx a w) (hp : PostM B cx.ng ρ0 m0 nx0 w0 ρ s.m s.nx w) (h : Sx.cut ts ks nx s = some s') (hle : nx0 ≤ nx)
    (hng : cx.ng ≤ nx0) : Ok B cx sz ρ s'.t s'.m s'.nx a w ∧ PostM B cx.ng ρ0 m0 nx0 w0 ρ s'.m s'.nx w := by
  obtain ⟨e, h1, h2⟩ := cut_spec h
  have hp' : PostM B cx.ng ρ0 m0 nx0 w0 ρ s'.m s'.nx w := by
    rw [e]
    exact hp.cut (fun k g hk => (h2 k g hk).1) (fun k g hk => (h2 k g hk).2) hle hng
  refine ⟨⟨⟨fun d v hv => hok.tm.val d v (h1 d v hv).1, fun d v hv => by rw [e]; exact (h1 d v hv).2⟩, hok.size, hp'.ok, hok.noDefer⟩, hp'⟩

theorem execL_wp (hmix : P.follows .mixedOrders = true) (hT : TysOk P cx.T) (hH : HookOk P B cx.ng H) : ∀ (l : List Code) (r : List Code) (s s' : St) (ex : Ex) (ob : List Prop) (ρ : Env) (a : Act) (w : World) (Q : Exit → Act → World → Prop),
    execL cx H sz lim orc l s = some (ex, s', ob) → (∀ p ∈ ob, p) → Ok B cx sz ρ s.t s.m s.nx a w → (∀ a' w', Ends B cx sz ρ s.m s.nx w s' a' w' → Exit.then (wpCs P Q r) Q ex.to a' w') → wpCs P Q (l ++ r) a w
  | [], r, s, s', ex, ob, ρ, a, w, Q, h, hob, hok, hQ => by
    cases h
    exact hQ a w ⟨ρ, hok, PostM.refl hok.mem⟩
  | c :: l, r, s, s', ex, ob, ρ, a, w, Q, h, hob, hok, hQ => by
    simp only [execL] at h
    show c.wp P (Exit.then (wpCs P Q (l ++ r)) Q) a w
    split at h
    · rename_i s1 ob1 hf
      obtain ⟨ob', h1, rfl⟩ := addOb_spec h
      refine exec_wp hmix hT hH c s s1 .n ob1 ρ a w _ hf (fun p hp => hob p (by simp [hp])) hok fun a' w' ⟨ρ', hok', hp'⟩ => ?_
      exact execL_wp hmix hT hH l r s1 s' ex ob' ρ' a' w' Q h1 (fun p hp => hob p (by simp [hp])) hok' fun a2 w2 h2 => hQ a2 w2 (Ends.trans (t1 := []) (a1 := a) hp' h2)
    · rename_i q hr
      cases hf : exec cx H sz lim orc c s with
      | none => rw [hf] at h; cases h
      | some q =>
        obtain ⟨ex', s1, ob1⟩ := q
        rw [hf] at h
        cases h
        refine exec_wp hmix hT hH c s s' ex ob ρ a w _ hf hob hok fun a' w' he => ?_
        cases ex with
        | n => exact (hr _ _ hf).elim
        | x id => exact hQ a' w' he
        | r => exact hQ a' w' he

/-- the post relation, from a later state -/
theorem Fin.of_later {ρ ρ1 : Env} {m m1 : Mem} {b b' nx1 : Nat} {w w1 : World} (hp : PostM B cx.ng ρ m b w ρ1 m1 nx1 w1) (hb : b ≤ b') {e : Exit} {a' : Act} {w' : World} (h : Fin B cx sz R ρ1 m1 b' w1 e a' w') : Fin B cx sz R ρ m b w e a' w' := by
  obtain ⟨ex, s', h1, h2, ρ2, h3, h4⟩ := h
  exact ⟨ex, s', h1, h2, ρ2, h3, hp.transB h4 hb⟩

theorem wpCs_mono {Q Q' : Exit → Act → World → Prop} (hq : ∀ e a w, Q e a w → Q' e a w) : ∀ (l : List Code) (a : Act) (w : World), wpCs P Q l a w → wpCs P Q' l a w
  | [], a, w, h => hq _ _ _ h
  | c :: l, a, w, h => Code.wp_mono (fun e a w q => by
      cases e with
      | normal => exact wpCs_mono hq l a w q
      | _ => exact hq _ _ _ q) h

/-- **RUN**: the first pieces of code by the run, the state cut down, the rest by another triple. -/
theorem Tri.run (hmix : P.follows .mixedOrders = true) (hT : TysOk P cx.T) (hH : HookOk P B cx.ng H) (n : Nat) {s1 : St} {ob : List Prop} (hx : execL cx H sz lim orc (l.take n) s = some (.n, s1, ob)) (hob : ∀ p ∈ ob, p)
    {ts ks : List Nat} {nx : Nat} (hc : cut ts ks nx s1 = some s') (hle : s.nx ≤ nx) (h : Tri P B cx sz base (l.drop n) s' R) : Tri P B cx sz base l s R := by
  intro hng hbs ρ a w hok
  rw [show l = l.take n ++ l.drop n from (List.take_append_drop n l).symm]
  refine execL_wp hmix hT hH _ _ s s1 .n ob ρ a w _ hx hob hok fun a' w' ⟨ρ1, hok1, hp1⟩ => ?_
  obtain ⟨hok2, hp2⟩ := hok1.cut hp1 hc hle hok.mem.ng_le
  have hnx : s'.nx = nx := (cut_spec hc).1
  exact wpCs_mono (fun e a2 w2 q => Fin.of_later (hp2.low hbs) (Nat.le_refl _) q) _ a' w' (h hng (by omega) ρ1 a' w' hok2)

/-- **RUN TO THE END.** -/
theorem Tri.done (hmix : P.follows .mixedOrders = true) (hT : TysOk P cx.T) (hH : HookOk P B cx.ng H) {s1 : St} {ex : Ex} {ob : List Prop} (hx : execL cx H sz lim orc l s = some (ex, s1, ob)) (hob : ∀ p ∈ ob, p)
    {ts ks : List Nat} {nx : Nat} (hc : cut ts ks nx s1 = some s') (hle : s.nx ≤ nx) (h : R ex s') : Tri P B cx sz base l s R := by
  intro hng hbs ρ a w hok
  rw [show l = l ++ [] by simp]
  refine execL_wp hmix hT hH _ _ s s1 ex ob ρ a w _ hx hob hok fun a' w' ⟨ρ1, hok1, hp1⟩ => ?_
  obtain ⟨hok2, hp2⟩ := hok1.cut hp1 hc hle hok.mem.ng_le
  have key : Fin B cx sz R ρ s.m base w ex.to a' w' := ⟨ex, s', rfl, h, ρ1, hok2, hp2.low hbs⟩
  cases ex <;> exact key

theorem Tri.mono (h : Tri P B cx sz base l s R) (hR : ∀ ex s', R ex s' → R' ex s') : Tri P B cx sz base l s R' := fun hng hbs ρ a w hok =>
  wpCs_mono (fun e a' w' ⟨ex, s', h1, h2, h3⟩ => ⟨ex, s', h1, hR _ _ h2, h3⟩) _ a w (h hng hbs ρ a w hok)

theorem Tri.nil (h : R .n s) : Tri P B cx sz base [] s R := fun hng hbs ρ a w hok => ⟨.n, s, rfl, h, ρ, hok, (PostM.refl hok.mem).low hbs⟩

/-- the temporaries and keys that are named are enough -/
theorem Tri.weak {ts ks : List Nat} {nx : Nat} (hc : cut ts ks nx s = some s') (hle : s.nx ≤ nx) (h : Tri P B cx sz base l s' R) : Tri P B cx sz base l s R := by
  intro hng hbs ρ a w hok
  obtain ⟨hok2, hp2⟩ := hok.cut (PostM.refl hok.mem) hc hle hok.mem.ng_le
  have hnx : s'.nx = nx := (cut_spec hc).1
  exact wpCs_mono (fun e a2 w2 q => Fin.of_later (hp2.low hbs) (Nat.le_refl _) q) _ a w (h hng (by omega) ρ a w hok2)

/-- **A LOOP.** -/
theorem Tri.loop {ι : Type} {id : Nat} {c : Code} {r : List Code} (hl : l = .block id (.loop c) :: r) (st : ι → St) (μ : ι → Nat) (j0 : ι) (hs : s = st j0) (hnx : ∀ j, base ≤ (st j).nx) {R1 : St → Prop}
    (hbody : ∀ j, Tri P B cx sz base (flat c) (st j) fun ex s' => match ex with
      | .n => ∃ j', μ j' < μ j ∧ s' = st j'
      | .x i => if i = id then R1 s' else R (.x i) s'
      | .r => R .r s') (hrest : ∀ s', R1 s' → Tri P B cx sz base r s' R) : Tri P B cx sz base l s R := by
  intro hng hbs ρ a w hok
  subst hl
  subst hs
  show (Code.block id (.loop c)).wp P (Exit.then (wpCs P (Fin B cx sz R ρ (st j0).m base w) r) (Fin B cx sz R ρ (st j0).m base w)) a w
  refine wp_block ?_
  have key : ∀ n (j : ι) (ρ1 : Env) (a1 : Act) (w1 : World), μ j = n → Ok B cx sz ρ1 (st j).t (st j).m (st j).nx a1 w1 → PostM B cx.ng ρ (st j0).m base w ρ1 (st j).m (st j).nx w1 →
      Code.rounds P c (Exit.inBlock id (Exit.then (wpCs P (Fin B cx sz R ρ (st j0).m base w) r) (Fin B cx sz R ρ (st j0).m base w))) (n + 1) a1 w1 := by
    intro n
    induction n using Nat.strongRecOn with
    | ind n ih =>
      intro j ρ1 a1 w1 hj hok1 hp1
      have hb := flat_wp c _ a1 w1 (hbody j hng (hnx j) ρ1 a1 w1 hok1)
      refine Code.wp_mono (fun e a2 w2 ⟨ex, s2, he, hR, ρ2, hok2, hp2⟩ => ?_) hb
      subst he
      cases ex with
      | n =>
        obtain ⟨j', hlt, rfl⟩ := hR
        show Code.rounds P c _ n a2 w2
        have := ih (μ j') (by omega) j' ρ2 a2 w2 rfl hok2 (hp1.transB hp2 (Nat.le_refl _))
        -- more rounds do no harm
        refine (?_ : ∀ (k k' : Nat) (a : Act) (w : World), k ≤ k' → Code.rounds P c _ k a w → Code.rounds P c _ k' a w) (μ j' + 1) n a2 w2 (by omega) this
        intro k
        induction k with
        | zero => intro k' a w _ h; exact h.elim
        | succ k ihk =>
          intro k' a w hle h
          cases k' with
          | zero => omega
          | succ k' => exact Code.wp_mono (fun e a w q => by
              cases e with
              | normal => exact ihk k' a w (by omega) q
              | _ => exact q) h
      | x i =>
        show Exit.inBlock id _ (.exit i) a2 w2
        simp only [Exit.inBlock]
        by_cases hi : i = id
        · rw [if_pos hi]
          have hR' : R1 s2 := by have := hR; simp only [hi, if_true] at this; exact this
          exact wpCs_mono (fun e a3 w3 q => Fin.of_later (hp1.transB hp2 (Nat.le_refl _)) (Nat.le_refl _) q) _ a2 w2 (hrest s2 hR' hng hp2.le ρ2 a2 w2 hok2)
        · rw [if_neg hi]
          have hR' : R (.x i) s2 := by have := hR; simp only [hi, if_false] at this; exact this
          exact ⟨.x i, s2, rfl, hR', ρ2, hok2, hp1.transB hp2 (Nat.le_refl _)⟩
      | r => exact ⟨.r, s2, rfl, hR, ρ2, hok2, hp1.transB hp2 (Nat.le_refl _)⟩
  exact wp_loop_rounds _ (key _ j0 ρ a w rfl hok ((PostM.refl hok.mem).low hbs))

/-- **TWO WAYS.** -/
theorem Tri.cond {c : Operand} {x y : Code} {r : List Code} (hl : l = .cond c x y :: r) {b : Bool} (hc : evs cx s.t c = some (.b b)) (h1 : b = true → Tri P B cx sz base (flat x ++ r) s R) (h2 : b = false → Tri P B cx sz base (flat y ++ r) s R) : Tri P B cx sz base l s R := by
  intro hng hbs ρ a w hok
  subst hl
  have e := (evs_den hok.tm hok.mem.gl hc).1
  refine wp_cond_split (t := b) (by rw [e]; rfl) (fun hb => ?_) fun hb => ?_
  · exact flat_wp x _ a w (wpCs_append _ _ a w (h1 hb hng hbs ρ a w hok))
  · exact flat_wp y _ a w (wpCs_append _ _ a w (h2 hb hng hbs ρ a w hok))

/-- one way, known -/
theorem Tri.condT {c : Operand} {x y : Code} {r : List Code} (hl : l = .cond c x y :: r) {b : Bool} (hc : evs cx s.t c = some (.b b)) (hb : b = true) (h : Tri P B cx sz base (flat x ++ r) s R) : Tri P B cx sz base l s R :=
  Tri.cond hl hc (fun _ => h) fun e => by rw [hb] at e; cases e
theorem Tri.condF {c : Operand} {x y : Code} {r : List Code} (hl : l = .cond c x y :: r) {b : Bool} (hc : evs cx s.t c = some (.b b)) (hb : b = false) (h : Tri P B cx sz base (flat y ++ r) s R) : Tri P B cx sz base l s R :=
  Tri.cond hl hc (fun e => by rw [hb] at e; cases e) fun _ => h

theorem Tri.block {id : Nat} {c : Code} {r : List Code} (hl : l = .block id c :: r) {R1 : St → Prop} (hb : Tri P B cx sz base (flat c) s fun ex s' => match ex with
      | .n => R1 s'
      | .x i => if i = id then R1 s' else R (.x i) s'
      | .r => R .r s') (hrest : ∀ s', R1 s' → Tri P B cx sz base r s' R) : Tri P B cx sz base l s R := by
  intro hng hbs ρ a w hok
  subst hl
  refine wp_block (Code.wp_mono (fun e a2 w2 ⟨ex, s2, he, hR, ρ2, hok2, hp2⟩ => ?_) (flat_wp c _ a w (hb hng hbs ρ a w hok)))
  subst he
  have go : R1 s2 → wpCs P (Fin B cx sz R ρ s.m base w) r a2 w2 := fun h1 => wpCs_mono (fun e a3 w3 q => Fin.of_later hp2 (Nat.le_refl _) q) _ a2 w2 (hrest s2 h1 hng hp2.le ρ2 a2 w2 hok2)
  cases ex with
  | n => exact go hR
  | x i =>
    show Exit.inBlock id _ (.exit i) a2 w2
    simp only [Exit.inBlock]
    by_cases hi : i = id
    · rw [if_pos hi]
      have hR' : R1 s2 := by have := hR; simp only [hi, if_true] at this; exact this
      exact go hR'
    · rw [if_neg hi]
      have hR' : R (.x i) s2 := by have := hR; simp only [hi, if_false] at this; exact this
      exact ⟨.x i, s2, rfl, hR', ρ2, hok2, hp2⟩
  | r => exact ⟨.r, s2, rfl, hR, ρ2, hok2, hp2⟩

end
end Go.Sx

set_option linter.unusedVariables false
namespace Go.Sx
open Go.RowKit

section
variable {P : Program} {H : Hook} {B : Nat} {cx : Cx} {sz lim : Nat} {orc : Orc} {R R' : Ex → St → Prop} {s s' : St} {l : List Code}

def enum : Nat → List SV → TM
  | _, [] => []
  | i, v :: r => (i, v) :: enum (i + 1) r

theorem enum_spec : ∀ (l : List SV) (i d : Nat) (v : SV), find (enum i l) d = some v → i ≤ d ∧ l[d - i]? = some v
  | [], i, d, v, h => by cases h
  | u :: r, i, d, v, h => by
    simp only [enum] at h
    rw [find_cons] at h
    by_cases e : i = d
    · rw [if_pos e] at h; cases h; subst e; exact ⟨Nat.le_refl _, by simp⟩
    · rw [if_neg e] at h
      obtain ⟨a, b⟩ := enum_spec r (i + 1) d v h
      refine ⟨by omega, ?_⟩
      rw [show d - i = (d - (i + 1)) + 1 by omega, List.getElem?_cons_succ]
      exact b

/-- one result -/
def resOne (cx : Cx) (t : TM) (m : Mem) : ResultVar → Option (SV × List Prop)
  | .tmp d => match find t d with
    | some v => some (v, [])
    | none => none
  | .cell d ty => loadM cx t m ty (.tmp d)

def resMany (cx : Cx) (t : TM) (m : Mem) : List ResultVar → Option (List SV0 × List Prop)
  | [] => some ([], [])
  | x :: r => match resOne cx t m x, resMany cx t m r with
    | some (.one v, ob), some (vs, ob') => some (v :: vs, ob ++ ob')
    | _, _ => none

def resX (cx : Cx) (t : TM) (m : Mem) : List ResultVar → Option (SV × List Prop)
  | [x] => resOne cx t m x
  | l => match resMany cx t m l with
    | some (vs, ob) => some (.tup vs, ob)
    | none => none

def resRun (x : ResultVar) (tmps : Array Value) : Sem Value := match x with
  | .tmp t => pure (tmps.getD t undef)
  | .cell a t => do loadVar t (← asAddr (tmps.getD a undef))

theorem results_eq (fn : Func) (tmps : Array Value) : results fn tmps = (do
    let vs ← fn.results.mapM fun x => resRun x tmps
    pure (if h : vs.size = 1 then vs[0] else .tuple vs)) := by
  unfold results
  congr 1

theorem resOne_run (hT : TysOk P cx.T) {ρ : Env} {t : TM} {m : Mem} {nx : Nat} {a : Act} {w : World} (hok : Ok B cx sz ρ t m nx a w) {x : ResultVar} {v : SV} {ob : List Prop} (h : resOne cx t m x = some (v, ob)) (hob : ∀ p ∈ ob, p) :
    (resRun x a.tmps).run P w = .ok (v.den ρ) w ∧ v.lt nx = true := by
  cases x with
  | tmp d =>
    simp only [resOne] at h
    split at h <;> first | (cases h; done) | skip
    rename_i v' hv
    cases h
    exact ⟨by simp [resRun, hok.tm.val d v hv], hok.tm.wf d v hv⟩
  | cell d ty =>
    simp only [resOne] at h
    obtain ⟨k1, k2⟩ := load_reads (P := P) (B := B) (ng := cx.ng) hT hok.tm hok.mem.gl (fun k s hk => (hok.mem.wf k s hk).1) (o := ⟨none, .load ty (.tmp d), ty, "", #[], none⟩) rfl h hob
    refine ⟨?_, k1⟩
    have hx := k2 w hok.mem
    -- the address
    have : ∃ k o, evs cx t (.tmp d) = some (.p k o) := by
      unfold loadM at h
      split at h <;> first | (cases h; done) | skip
      rename_i ti k o _ he
      exact ⟨k, o, he⟩
    obtain ⟨k, o, he⟩ := this
    have e := (evs_den hok.tm hok.mem.gl he).1
    simp only [execOp, e, Sc.den, Instr.loadAt, Instr.sureAddr] at hx
    have e' : a.tmps.getD d undef = .pointer (some ⟨(ρ k).blk, (ρ k).off + o, none⟩) := e
    simp only [resRun, e']
    cases hr : (loadVar ty ⟨(ρ k).blk, (ρ k).off + o, none⟩).run P w with
    | ok u w' =>
      simp [hr] at hx
      simp [asAddr, hr, hx]
    | halt u w' =>
      simp [hr] at hx

theorem resMany_run (hT : TysOk P cx.T) {ρ : Env} {t : TM} {m : Mem} {nx : Nat} {a : Act} {w : World} (hok : Ok B cx sz ρ t m nx a w) : ∀ {l : List ResultVar} {vs : List SV0} {ob : List Prop}, resMany cx t m l = some (vs, ob) → (∀ p ∈ ob, p) →
    (l.mapM fun x => resRun x a.tmps).run P w = .ok (vs.map (SV0.den ρ)) w ∧ vs.all (SV0.lt nx) = true
  | [], vs, ob, h, hob => by cases h; exact ⟨by simp, rfl⟩
  | x :: r, vs, ob, h, hob => by
    simp only [resMany] at h
    split at h <;> first | (cases h; done) | skip
    rename_i v ob1 vs' ob2 h1 h2
    cases h
    obtain ⟨r1, l1⟩ := resOne_run hT hok h1 (fun p hp => hob p (by simp [hp]))
    obtain ⟨r2, l2⟩ := resMany_run hT hok h2 (fun p hp => hob p (by simp [hp]))
    have r1' : (resRun x a.tmps).run P w = .ok (v.den ρ) w := r1
    have l1' : v.lt nx = true := l1
    refine ⟨?_, by simp [l1', l2]⟩
    rw [List.mapM_cons]
    simp [r1', r2]

theorem resX_run (hT : TysOk P cx.T) {ρ : Env} {t : TM} {m : Mem} {nx : Nat} {a : Act} {w : World} (hok : Ok B cx sz ρ t m nx a w) {fn : Func} {v : SV} {ob : List Prop} (h : resX cx t m fn.results.toList = some (v, ob)) (hob : ∀ p ∈ ob, p) :
    (results fn a.tmps).run P w = .ok (v.den ρ) w ∧ v.lt nx = true := by
  rw [results_eq]
  have harr : (fn.results.mapM fun x => resRun x a.tmps) = (List.toArray <$> fn.results.toList.mapM fun x => resRun x a.tmps) := by
    rw [Array.mapM_eq_mapM_toList]
  rw [harr]
  unfold resX at h
  split at h
  · rename_i x hx
    rw [hx]
    obtain ⟨r1, l1⟩ := resOne_run hT hok h hob
    refine ⟨?_, l1⟩
    simp [r1]
  · rename_i hne
    split at h <;> first | (cases h; done) | skip
    rename_i vs ob' hm
    cases h
    obtain ⟨r1, l1⟩ := resMany_run hT hok hm hob
    refine ⟨?_, l1⟩
    have hlen : vs.length = fn.results.toList.length := by
      clear r1 l1 hob hne harr
      generalize fn.results.toList = l at hm
      induction l generalizing vs ob with
      | nil => cases hm; rfl
      | cons x r ih =>
        simp only [resMany] at hm
        split at hm <;> first | (cases hm; done) | skip
        rename_i v ob1 vs' ob2 h1 h2
        cases hm
        simp [ih _ h2]
    have hne1 : (vs.map (SV0.den ρ)).length ≠ 1 := by
      rw [List.length_map, hlen]
      intro h1
      obtain ⟨x, hx⟩ := List.length_eq_one_iff.1 h1
      exact hne x hx
    simp [r1]
    have hne1' : ¬ vs.length = 1 := by simpa using hne1
    simp [hne1', SV.den]

/-- a function's end: its value and what is left of the memory -/
def endsAs (cx : Cx) (rs : List ResultVar) (ks : List Nat) (nx : Nat) (s : St) : Option (SV × Mem × List Prop) :=
  match resX cx s.t s.m rs, cut [] ks nx s with
  | some (v, ob), some s' => bif v.lt nx then some (v, s'.m, ob) else none
  | _, _ => none

/-- **A FUNCTION, FROM ITS BODY.** -/
theorem FnE.of_tri (hT : TysOk P cx.T) {f : FuncId} {fn : Func} {c : Code} (hf : P.funcs[f]? = some fn) (hb : fn.body = some c) (hn : (fn.name == "runtime.NumGoroutine") = false) (hsz : fn.ntmps = sz) {args : List SV} (hlen : args.length ≤ sz) {m : Mem} {nx : Nat} {e : Ef} (hlt : args.all (SV.lt nx) = true) (hle : nx ≤ e.nx)
    (ht : Tri P B cx sz nx (flat c) ⟨enum 0 args, m, nx⟩ fun ex s' => (match ex with
      | .x _ => False
      | _ => True) ∧ ∃ ks ob, endsAs cx fn.results.toList ks e.nx s' = some (e.v, e.m, ob) ∧ ∀ p ∈ ob, p) : FnE P B cx.ng f args m nx e := by
  refine ⟨fun args w => ?_, fun ρ w hm => ?_⟩
  · simp only [beq_eq_false_iff_ne, ne_eq] at hn
    simp [callFunc, hf, hn, hb]
  · refine calls_of_wp hf hb (Code.wp_mono (fun ex a' w' hfin => ?_) (flat_wp c _ _ w (ht hm.ng_le (Nat.le_refl _) ρ _ w ⟨⟨fun d v hd => ?_, fun d v hd => ?_⟩, ?_, hm, rfl⟩)))
    · obtain ⟨ex', s', he, ⟨h1, ks, ob, h2, hob⟩, ρ', hok', hp'⟩ := hfin
      unfold endsAs at h2
      split at h2 <;> first | (cases h2; done) | skip
      rename_i v ob' s2 hres hcut
      cases hbv : v.lt e.nx with
      | false => rw [hbv] at h2; cases h2
      | true =>
        rw [hbv, cond_true] at h2
        simp only [Option.some.injEq, Prod.mk.injEq] at h2
        obtain ⟨e1, e2, e3⟩ := h2
        subst e3
        obtain ⟨r1, r2⟩ := resX_run hT hok' hres hob
        have hcut' := hok'.cut hp' hcut hle hm.ng_le
        have hnx : s2.nx = e.nx := (cut_spec hcut).1
        have hfin : bodyPost P fn (fun en w' => ∃ ρ', en = .returned (e.v.den ρ') ∧ PostM B cx.ng ρ m nx w ρ' e.m e.nx w') .ret a' w' := by
          refine ⟨hok'.noDefer, _, r1, ρ', by rw [e1], ?_⟩
          rw [← e2, ← hnx]; exact hcut'.2
        subst he
        cases ex' with
        | n => exact hfin
        | x i => exact h1.elim
        | r => exact hfin
    · obtain ⟨_, hd2⟩ := enum_spec args 0 d v hd
      rw [Nat.sub_zero] at hd2
      have hlt' : d < args.length := (List.getElem?_eq_some_iff.1 hd2).1
      have hget : args[d] = v := (List.getElem?_eq_some_iff.1 hd2).2
      simp [Array.getD_eq_getD_getElem?, Array.getElem?_append, hlt', hget]
    · obtain ⟨_, hd2⟩ := enum_spec args 0 d v hd
      rw [Nat.sub_zero] at hd2
      exact List.all_eq_true.1 hlt v (List.mem_of_getElem? hd2)
    · simp; omega

end
end Go.Sx

set_option linter.unusedVariables false
namespace Go.Sx
open Go.RowKit

def infoB (P : Program) (t : TypeId) : Option (Nat × Nat × Option (Array Value)) := match P.info? t with
  | some i => some (i.size, i.bytes, match i.zero with
    | some v => some v.cells
    | none => none)
  | none => none

def aggOf (P : Program) (t : TypeId) : Option Bool := match P.underlying t with
  | some d => some (aggB d)
  | none => none

def sizeOf' (P : Program) (t : TypeId) : Option Nat := match P.info? t with
  | some i => some i.size
  | none => none

theorem infoB_spec {P : Program} {t : TypeId} {a b : Nat} {z : Option (Array Value)} (h : infoB P t = some (a, b, z)) : ∃ i, P.info? t = some i ∧ i.size = a ∧ i.bytes = b ∧ (∀ c, z = some c → ∃ zv, i.zero = some zv ∧ zv.cells = c) := by
  unfold infoB at h
  split at h <;> first | (cases h; done) | skip
  rename_i i hi
  cases h
  refine ⟨i, hi, rfl, rfl, fun c hc => ?_⟩
  split at hc
  · rename_i v hv; cases hc; exact ⟨v, hv, rfl⟩
  · cases hc

theorem aggOf_spec {P : Program} {t : TypeId} {b : Bool} (h : aggOf P t = some b) : ∃ d, P.underlying t = some d ∧ aggB d = b := by
  unfold aggOf at h
  split at h
  · rename_i d hd; cases h; exact ⟨d, hd, rfl⟩
  · cases h

theorem sizeOf'_spec {P : Program} {t : TypeId} {n : Nat} (h : sizeOf' P t = some n) : ∃ i, P.info? t = some i ∧ i.size = n := by
  unfold sizeOf' at h
  split at h
  · rename_i i hi; cases h; exact ⟨i, hi, rfl⟩
  · cases h

def zCells (z : List SegD) : Array Value := (z.flatMap (SegD.cells (fun _ => ⟨0, 0, 0, false⟩))).toArray

def stRow (P : Program) : List Field → Option (List (Nat × Nat × Bool))
  | [] => some []
  | f :: r => match sizeOf' P f.type, aggOf P f.type, stRow P r with
    | some s, some a, some l => some ((f.offset, s, a) :: l)
    | _, _, _ => none

def stInfo (P : Program) (t : TypeId) : Option (List (Nat × Nat × Bool)) := match P.underlying t with
  | some (.struct F) => stRow P F.toList
  | _ => none

theorem stRow_spec {P : Program} : ∀ {l : List Field} {fs : List (Nat × Nat × Bool)}, stRow P l = some fs → l.map (fun f => f.offset) = fs.map (·.1) ∧
    ∀ (i : Nat) (f : Field) (x : Nat × Nat × Bool), l[i]? = some f → fs[i]? = some x → (∃ j, P.info? f.type = some j ∧ j.size = x.2.1) ∧ (∃ d, P.underlying f.type = some d ∧ aggB d = x.2.2)
  | [], fs, h => by cases h; exact ⟨rfl, fun i f x hf => by simp at hf⟩
  | f :: r, fs, h => by
    simp only [stRow] at h
    split at h <;> first | (cases h; done) | skip
    rename_i s a l h1 h2 h3
    cases h
    obtain ⟨k1, k2⟩ := stRow_spec h3
    refine ⟨by simp [k1], fun i g x hg hx => ?_⟩
    cases i with
    | zero =>
      simp only [List.getElem?_cons_zero, Option.some.injEq] at hg hx
      subst hg hx
      exact ⟨sizeOf'_spec h1, aggOf_spec h2⟩
    | succ i => exact k2 i g x (by simpa using hg) (by simpa using hx)

section
variable {P : Program} {t : TypeId}

theorem szOf {sz b : Nat} {z : List SegD} (h : infoB P t = some (sz, b, some (zCells z))) : ∃ i, P.info? t = some i ∧ i.size = sz ∧ (z ≠ [] → ∃ zv, i.zero = some zv ∧ zv.cells = (z.flatMap (SegD.cells (fun _ => ⟨0, 0, 0, false⟩))).toArray) := by
  obtain ⟨i, h1, h2, _, h4⟩ := infoB_spec h
  exact ⟨i, h1, h2, fun _ => h4 _ rfl⟩

theorem TyOk.int {k : IntKind} {b : Nat} {z : List SegD} (h1 : P.underlying t = some (.int k)) (h2 : infoB P t = some (1, b, some (zCells z))) (hz : z.all (SegD.lt 0) = true) : TyOk P t ⟨.int k, 1, z, false⟩ :=
  ⟨szOf h2, fun h => (by cases h), hz, h1⟩
theorem TyOk.bool {b : Nat} {z : List SegD} (h1 : P.underlying t = some .bool) (h2 : infoB P t = some (1, b, some (zCells z))) (hz : z.all (SegD.lt 0) = true) : TyOk P t ⟨.bool, 1, z, false⟩ :=
  ⟨szOf h2, fun h => (by cases h), hz, h1⟩
theorem TyOk.str {b : Nat} {z : List SegD} (h1 : P.underlying t = some .string) (h2 : infoB P t = some (1, b, some (zCells z))) (hz : z.all (SegD.lt 0) = true) : TyOk P t ⟨.str, 1, z, false⟩ :=
  ⟨szOf h2, fun h => (by cases h), hz, h1⟩
theorem TyOk.ptr {e : TypeId} {b : Nat} {z : List SegD} (h1 : P.underlying t = some (.pointer e)) (h2 : infoB P t = some (1, b, some (zCells z))) (hz : z.all (SegD.lt 0) = true) : TyOk P t ⟨.ptr e, 1, z, false⟩ :=
  ⟨szOf h2, fun h => (by cases h), hz, h1⟩
/-- a pointer type whose method n is function f -/
def mpB (P : Program) (t : TypeId) (n : String) (f : FuncId) : Bool := match P.underlying t, P.info? t with
  | some (.pointer _), some i => (match i.methods.find? (·.name == n) with
    | some m => m.path.isEmpty && (match m.func with
      | some (g, b) => Nat.beq g f && b
      | none => false)
    | none => false)
  | _, _ => false
theorem TyOk.mp {n : String} {f : FuncId} {b : Nat} {z : List SegD} (h1 : mpB P t n f = true) (h2 : infoB P t = some (1, b, some (zCells z))) (hz : z.all (SegD.lt 0) = true) : TyOk P t ⟨.mp n f, 1, z, false⟩ := by
  unfold mpB at h1
  split at h1
  · rename_i e i hu hi
    split at h1
    · rename_i m hm
      simp only [Bool.and_eq_true] at h1
      obtain ⟨hp, hf⟩ := h1
      split at hf
      · rename_i g b' hg
        simp only [Bool.and_eq_true] at hf
        obtain ⟨e1, e2⟩ := hf
        have e1 := Nat.eq_of_beq_eq_true e1
        subst e1 e2
        exact ⟨szOf h2, fun h => (by cases h), hz, e, i, m, hu, hi, hm, Array.isEmpty_iff.1 hp, hg⟩
      · cases hf
    · cases h1
  · cases h1
theorem TyOk.arr {n e es b : Nat} {ea : Bool} {z : List SegD} {sz : Nat} (h1 : P.underlying t = some (.array n e)) (h2 : infoB P t = some (sz, b, some (zCells z))) (hz : z.all (SegD.lt 0) = true) (h3 : sizeOf' P e = some es) (h4 : aggOf P e = some ea) : TyOk P t ⟨.arr n e es ea, sz, z, false⟩ :=
  ⟨szOf h2, fun h => (by cases h), hz, h1, sizeOf'_spec h3, aggOf_spec h4⟩
theorem TyOk.arrEq {n e b : Nat} {k : IntKind} {z : List SegD} {sz : Nat} (h1 : P.underlying t = some (.array n e)) (h2 : infoB P t = some (sz, b, some (zCells z))) (hz : z.all (SegD.lt 0) = true) (h3 : sizeOf' P e = some 1) (h4 : P.underlying e = some (.int k))
    (h5 : P.eqGuardType P.depth t = false) : TyOk P t ⟨.arr n e 1 false, sz, z, true⟩ :=
  ⟨szOf h2, fun _ => ⟨h5, n, e, k, h1, h4, sizeOf'_spec h3⟩, hz, h1, sizeOf'_spec h3, ⟨_, h4, rfl⟩⟩
theorem TyOk.slc {e es b eb : Nat} {ea : Bool} {z : List SegD} {zo : Option (Array Value)} (h1 : P.underlying t = some (.slice e)) (h2 : infoB P t = some (1, b, some (zCells z))) (hz : z.all (SegD.lt 0) = true) (h3 : infoB P e = some (es, eb, zo)) (h4 : aggOf P e = some ea) : TyOk P t ⟨.slc e es ea eb, 1, z, false⟩ := by
  obtain ⟨i, a1, a2, a3, _⟩ := infoB_spec h3
  exact ⟨szOf h2, fun h => (by cases h), hz, h1, ⟨i, a1, a2, a3⟩, aggOf_spec h4⟩
theorem TyOk.ifc {ms : Array (String × TypeId)} {b : Nat} {z : List SegD} (h1 : P.underlying t = some (.interface ms)) (h2 : infoB P t = some (1, b, some (zCells z))) (hz : z.all (SegD.lt 0) = true) : TyOk P t ⟨.ifc, 1, z, false⟩ :=
  ⟨szOf h2, fun h => (by cases h), hz, ⟨_, h1⟩⟩

theorem TyOk.st {b : Nat} {z : List SegD} {sz : Nat} {fs : List (Nat × Nat × Bool)} (h1 : stInfo P t = some fs) (h2 : infoB P t = some (sz, b, some (zCells z))) (hz : z.all (SegD.lt 0) = true) : TyOk P t ⟨.st fs, sz, z, false⟩ := by
  refine ⟨szOf h2, fun e => (by cases e), hz, ?_⟩
  unfold stInfo at h1
  split at h1 <;> first | (cases h1; done) | skip
  rename_i F hF
  obtain ⟨k1, k2⟩ := stRow_spec h1
  exact ⟨F, hF, k1, fun i f x hf hx => k2 i f x (by simpa using hf) hx⟩

theorem TysOk.nil : TysOk P [] := fun t ti h => by cases h
theorem TysOk.cons {ti : TyI} {T : Tys} (h : TyOk P t ti) (hT : TysOk P T) : TysOk P ((t, ti) :: T) := fun t' ti' h' => by
  rw [find_cons] at h'
  by_cases e : t = t'
  · rw [if_pos e] at h'; cases h'; subst e; exact h
  · rw [if_neg e] at h'; exact hT t' ti' h'

end

theorem HookOk.none (P : Program) (B ng : Nat) : HookOk P B ng (fun _ _ _ _ => none) := fun f args m nx e h => by cases h

end Go.Sx
