/- Code, run symbolically; and triples over symbolic states, with the loop rule. Conditions: none; plain definitions and theorems over any program. -/
import Derived.Test.YtnloecdkogckiaaDoorSx17
import Derived.LoopN
import Derived.Scope
set_option linter.unusedVariables false
namespace Go.Sx
open Go.RowKit

inductive Ex where
  | n
  | x (id : Nat)
  | r

def Ex.to : Ex → Exit
  | .n => .normal
  | .x id => .exit id
  | .r => .ret

abbrev Res := Option (Ex × St × List Prop)

def addOb (ob : List Prop) : Res → Res
  | some (e, s, ob') => some (e, s, ob ++ ob')
  | none => none

def iter (f : St → Res) : Nat → St → Res
  | 0, _ => none
  | n + 1, s => match f s with
    | some (.n, s', ob) => addOb ob (iter f n s')
    | r => r

def condX (cx : Cx) (orc : Orc) (t : TM) (c : Operand) : Option (Bool × List Prop) :=
  match ev cx t c with
  | some (.one (.s (.b x))) => match (match c with
      | .tmp d => orc t d
      | _ => none) with
    | some b => some (b, [x = b])
    | none => match x with
      | true => some (true, [])
      | false => some (false, [])
  | _ => none

/-- code, run: lim bounds the rounds of each loop -/
def exec (cx : Cx) (H : Hook) (sz lim : Nat) (orc : Orc) : Code → St → Res
  | .skip, s => some (.n, s, [])
  | .region _ ops draw, s => match (match draw with
      | true => drawX cx H sz orc ops.toList s
      | false => runL cx H sz orc ops.toList ops.toList s) with
    | some (s', ob) => some (.n, s', ob)
    | none => none
  | .seq a b, s => match exec cx H sz lim orc a s with
    | some (.n, s', ob) => addOb ob (exec cx H sz lim orc b s')
    | r => r
  | .cond c a b, s => match condX cx orc s.t c with
    | some (true, ob) => addOb ob (exec cx H sz lim orc a s)
    | some (false, ob) => addOb ob (exec cx H sz lim orc b s)
    | none => none
  | .block id c, s => match exec cx H sz lim orc c s with
    | some (.x i, s', ob) => bif Nat.beq i id then some (.n, s', ob) else some (.x i, s', ob)
    | r => r
  | .loop c, s => iter (fun s => exec cx H sz lim orc c s) lim s
  | .exit id, s => some (.x id, s, [])
  | .scope c, s => exec cx H sz lim orc c s
  | .ret, s => some (.r, s, [])
  | _, _ => none

section
variable {P : Program} {cx : Cx} {H : Hook} {B sz lim : Nat} {orc : Orc}

theorem Ends.trans {ρ : Env} {m m1 : Mem} {nx nx1 : Nat} {w : World} {t1 : TM} {s : St} {a1 a2 : Act} {w1 w2 : World}
    {ρ1 : Env} (h : PostM B cx.ng ρ m nx w ρ1 m1 nx1 w1) (k : Ends B cx sz ρ1 m1 nx1 w1 s a2 w2) : Ends B cx sz ρ m nx w s a2 w2 :=
  let ⟨ρ2, h1, h2⟩ := k; ⟨ρ2, h1, h.trans h2⟩

theorem condX_spec {ρ : Env} {t : TM} {nx : Nat} {a : Act} (ht : TmOk ρ t nx a) (hg : GlOk cx ρ nx) {c : Operand} {b : Bool} {ob : List Prop} (h : condX cx orc t c = some (b, ob)) (hob : ∀ p ∈ ob, p) : a.eval c = .bool b := by
  unfold condX at h
  split at h <;> first | (cases h; done) | skip
  rename_i x hx
  have e := (ev_den ht hg hx).1
  rw [e]
  split at h
  · cases h
    have : x = b := hob _ (by simp)
    rw [this]; rfl
  · split at h <;> (cases h; rfl)

theorem addOb_spec {ob ob2 : List Prop} {r : Res} {e : Ex} {s : St} (h : addOb ob r = some (e, s, ob2)) : ∃ ob', r = some (e, s, ob') ∧ ob2 = ob ++ ob' := by
  unfold addOb at h
  split at h
  · cases h; exact ⟨_, rfl, rfl⟩
  · cases h

/-- what a run says -/
def Runs (P : Program) (B : Nat) (cx : Cx) (sz : Nat) (c : Code) (f : St → Res) : Prop :=
  ∀ (s s' : St) (ex : Ex) (ob : List Prop) (ρ : Env) (a : Act) (w : World) (Q : Exit → Act → World → Prop), f s = some (ex, s', ob) → (∀ p ∈ ob, p) → Ok B cx sz ρ s.t s.m s.nx a w →
    (∀ a' w', Ends B cx sz ρ s.m s.nx w s' a' w' → Q ex.to a' w') → c.wp P Q a w

theorem iter_rounds {c : Code} {f : St → Res} (hc : Runs P B cx sz c f) : ∀ (n : Nat) (s s' : St) (ex : Ex) (ob : List Prop) (ρ : Env) (a : Act) (w : World) (Q : Exit → Act → World → Prop), iter f n s = some (ex, s', ob) → (∀ p ∈ ob, p) →
    Ok B cx sz ρ s.t s.m s.nx a w → (∀ a' w', Ends B cx sz ρ s.m s.nx w s' a' w' → Q ex.to a' w') → Code.rounds P c Q n a w
  | 0, s, s', ex, ob, ρ, a, w, Q, h, _, _, _ => by cases h
  | n + 1, s, s', ex, ob, ρ, a, w, Q, h, hob, hok, hQ => by
    simp only [iter] at h
    show c.wp P (Exit.then (Code.rounds P c Q n) Q) a w
    split at h
    · rename_i s1 ob1 hf
      obtain ⟨ob', h1, rfl⟩ := addOb_spec h
      refine hc s s1 .n ob1 ρ a w _ hf (fun p hp => hob p (by simp [hp])) hok fun a' w' ⟨ρ', hok', hp'⟩ => ?_
      exact iter_rounds hc n s1 s' ex ob' ρ' a' w' Q h1 (fun p hp => hob p (by simp [hp])) hok' fun a2 w2 h2 => hQ a2 w2 (Ends.trans (t1 := []) (a1 := a) hp' h2)
    · rename_i r hr
      cases hf : f s with
      | none => rw [hf] at h; cases h
      | some q =>
        obtain ⟨ex', s1, ob1⟩ := q
        rw [hf] at h
        cases h
        refine hc s s' ex ob ρ a w _ hf hob hok fun a' w' he => ?_
        cases ex with
        | n => exact (hr _ _ hf).elim
        | x id => exact hQ a' w' he
        | r => exact hQ a' w' he

/-- **CODE.** -/
theorem exec_wp (hmix : P.follows .mixedOrders = true) (hT : TysOk P cx.T) (hH : HookOk P B cx.ng H) : ∀ c, Runs P B cx sz c (exec cx H sz lim orc c) := by
  intro c
  induction c with
  | skip => intro s s' ex ob ρ a w Q h hob hok hQ; cases h; exact wp_skip (hQ a w ⟨ρ, hok, PostM.refl hok.mem⟩)
  | region id ops draw =>
    intro s s' ex ob ρ a w Q h hob hok hQ
    simp only [exec] at h
    cases draw with
    | true =>
      dsimp only at h
      split at h <;> first | (cases h; done) | skip
      rename_i s1 ob1 hd
      cases h
      exact draw_wp hmix hT hH hd hob hok hQ
    | false =>
      dsimp only at h
      split at h <;> first | (cases h; done) | skip
      rename_i s1 ob1 hd
      cases h
      refine wp_region_list ?_
      have := runL_wp (P := P) hT hH (Q := Q) ops.toList s s' ob ρ a w hd hob hok hQ
      simpa using this
  | seq x y ihx ihy =>
    intro s s' ex ob ρ a w Q h hob hok hQ
    simp only [exec] at h
    refine wp_seq ?_
    split at h
    · rename_i s1 ob1 hf
      obtain ⟨ob', h1, rfl⟩ := addOb_spec h
      refine ihx s s1 .n ob1 ρ a w _ hf (fun p hp => hob p (by simp [hp])) hok fun a' w' ⟨ρ', hok', hp'⟩ => ?_
      exact ihy s1 s' ex ob' ρ' a' w' Q h1 (fun p hp => hob p (by simp [hp])) hok' fun a2 w2 h2 => hQ a2 w2 (Ends.trans (t1 := []) (a1 := a) hp' h2)
    · rename_i r hr
      cases hf : exec cx H sz lim orc x s with
      | none => rw [hf] at h; cases h
      | some q =>
        obtain ⟨ex', s1, ob1⟩ := q
        rw [hf] at h
        cases h
        refine ihx s s' ex ob ρ a w _ hf hob hok fun a' w' he => ?_
        cases ex with
        | n => exact (hr _ _ hf).elim
        | x id => exact hQ a' w' he
        | r => exact hQ a' w' he
  | cond c x y ihx ihy =>
    intro s s' ex ob ρ a w Q h hob hok hQ
    simp only [exec] at h
    split at h <;> first | (cases h; done) | skip
    · rename_i ob1 hc
      obtain ⟨ob', h1, rfl⟩ := addOb_spec h
      refine wp_cond_true (condX_spec hok.tm hok.mem.gl hc fun p hp => hob p (by simp [hp])) ?_
      exact ihx s s' ex ob' ρ a w Q h1 (fun p hp => hob p (by simp [hp])) hok hQ
    · rename_i ob1 hc
      obtain ⟨ob', h1, rfl⟩ := addOb_spec h
      refine wp_cond_false (condX_spec hok.tm hok.mem.gl hc fun p hp => hob p (by simp [hp])) ?_
      exact ihy s s' ex ob' ρ a w Q h1 (fun p hp => hob p (by simp [hp])) hok hQ
  | block id c ih =>
    intro s s' ex ob ρ a w Q h hob hok hQ
    simp only [exec] at h
    refine wp_block ?_
    split at h
    · rename_i i s1 ob1 hf
      cases hb : Nat.beq i id with
      | true =>
        rw [hb, cond_true] at h
        cases h
        have e := Nat.eq_of_beq_eq_true hb
        subst e
        refine ih s s' (.x i) ob ρ a w _ hf hob hok fun a' w' he => ?_
        show Exit.inBlock i Q (.exit i) a' w'
        simp only [Exit.inBlock, if_true]
        exact hQ a' w' he
      | false =>
        rw [hb, cond_false] at h
        cases h
        refine ih s s' (.x i) ob ρ a w _ hf hob hok fun a' w' he => ?_
        show Exit.inBlock id Q (.exit i) a' w'
        have : i ≠ id := fun e => by subst e; simp at hb
        simp only [Exit.inBlock, this, if_false]
        exact hQ a' w' he
    · rename_i r hr
      cases hf : exec cx H sz lim orc c s with
      | none => rw [hf] at h; cases h
      | some q =>
        obtain ⟨ex', s1, ob1⟩ := q
        rw [hf] at h
        cases h
        refine ih s s' ex ob ρ a w _ hf hob hok fun a' w' he => ?_
        cases ex with
        | n => exact hQ a' w' he
        | x i => exact (hr _ _ _ hf).elim
        | r => exact hQ a' w' he
  | loop c ih =>
    intro s s' ex ob ρ a w Q h hob hok hQ
    simp only [exec] at h
    exact wp_loop_rounds lim (iter_rounds ih lim s s' ex ob ρ a w Q h hob hok hQ)
  | exit id => intro s s' ex ob ρ a w Q h hob hok hQ; cases h; exact wp_exit (hQ a w ⟨ρ, hok, PostM.refl hok.mem⟩)
  | scope c ih =>
    intro s s' ex ob ρ a w Q h hob hok hQ
    simp only [exec] at h
    refine wp_scope_straight (ih s s' ex ob ρ a w _ h hob hok fun a' w' he => ?_)
    cases ex <;> exact hQ a' w' he
  | ret => intro s s' ex ob ρ a w Q h hob hok hQ; cases h; exact wp_ret (hQ a w ⟨ρ, hok, PostM.refl hok.mem⟩)
  | rangeFunc f ps a b _ _ => intro s s' ex ob ρ a w Q h hob hok hQ; cases h
  | label l => intro s s' ex ob ρ a w Q h hob hok hQ; cases h
  | goto l => intro s s' ex ob ρ a w Q h hob hok hQ; cases h
  | refuse why => intro s s' ex ob ρ a w Q h hob hok hQ; cases h

end
end Go.Sx
