/- Triples over symbolic states; a function's contract from its body. Conditions: none; plain definitions and theorems over any program. -/
import Derived.Test.YtnloecdkogckiaaDoorSx18
set_option linter.unusedVariables false
namespace Go.Sx
open Go.RowKit

/-- rows of code, one behind the other -/
def wpCs (P : Program) (Q : Exit → Act → World → Prop) : List Code → Act → World → Prop
  | [] => Q .normal
  | c :: r => c.wp P (Exit.then (wpCs P Q r) Q)

def flat : Code → List Code
  | .seq x y => flat x ++ flat y
  | c => [c]

theorem Exit.then_then {N : Act → World → Prop} {Q : Exit → Act → World → Prop} {e : Exit} {a : Act} {w : World} (h : Exit.then N Q e a w) : Exit.then N (Exit.then N Q) e a w := by
  cases e <;> exact h

theorem wpCs_append {P : Program} {Q : Exit → Act → World → Prop} : ∀ (l r : List Code) (a : Act) (w : World), wpCs P Q (l ++ r) a w → wpCs P (Exit.then (wpCs P Q r) Q) l a w
  | [], r, a, w, h => h
  | c :: l, r, a, w, h => Code.wp_mono (fun e a w q => by
      cases e with
      | normal => exact wpCs_append l r a w q
      | _ => exact q) h

theorem flat_wp {P : Program} : ∀ (c : Code) (Q : Exit → Act → World → Prop) (a : Act) (w : World), wpCs P Q (flat c) a w → c.wp P Q a w := by
  have single : ∀ (c : Code) (Q : Exit → Act → World → Prop) (a : Act) (w : World), wpCs P Q [c] a w → c.wp P Q a w := fun c Q a w h => Code.wp_mono (fun e a w q => by cases e <;> exact q) h
  intro c
  induction c with
  | seq x y ihx ihy =>
    intro Q a w h
    simp only [flat] at h
    refine wp_seq (ihx _ a w ?_)
    have := wpCs_append _ _ a w h
    refine (?_ : ∀ l a w, wpCs P (Exit.then (wpCs P Q (flat y)) Q) l a w → wpCs P (Exit.then (y.wp P Q) Q) l a w) _ a w this
    intro l
    induction l with
    | nil => intro a w h; exact ihy Q a w h
    | cons c l ih =>
      intro a w h
      refine Code.wp_mono (fun e a w q => ?_) h
      cases e with
      | normal => exact ih a w q
      | _ => exact q
  | _ => intro Q a w h; exact single _ Q a w h

section
variable (P : Program) (B : Nat) (cx : Cx) (sz : Nat)

/-- what a run from a symbolic state comes to -/
def Fin (R : Ex → St → Prop) (ρ : Env) (m : Mem) (nx : Nat) (w : World) (e : Exit) (a' : Act) (w' : World) : Prop :=
  ∃ ex s', e = Ex.to ex ∧ R ex s' ∧ Ends B cx sz ρ m nx w s' a' w'

/-- from a state: what code comes to; keys below base keep their places -/
def Tri (base : Nat) (l : List Code) (s : St) (R : Ex → St → Prop) : Prop :=
  cx.ng ≤ base → base ≤ s.nx → ∀ ρ a w, Ok B cx sz ρ s.t s.m s.nx a w → wpCs P (Fin B cx sz R ρ s.m base w) l a w

end

/-- rows of code, run -/
def execL (cx : Cx) (H : Hook) (sz lim : Nat) (orc : Orc) : List Code → St → Res
  | [], s => some (.n, s, [])
  | c :: r, s => match exec cx H sz lim orc c s with
    | some (.n, s', ob) => addOb ob (execL cx H sz lim orc r s')
    | r => r

def pickT (t : TM) : List Nat → Option TM
  | [] => some []
  | d :: r => match find t d, pickT t r with
    | some v, some t' => some ((d, v) :: t')
    | _, _ => none

def pickM (m : Mem) : List Nat → Option Mem
  | [] => some []
  | k :: r => match find m k, pickM m r with
    | some s, some m' => some ((k, s) :: m')
    | _, _ => none

/-- a state cut down: the temporaries and keys that are named, below nx -/
def cut (ts ks : List Nat) (nx : Nat) (s : St) : Option St :=
  match pickT s.t ts, pickM s.m ks with
  | some t, some m => bif t.all (fun x => x.2.lt nx) && m.all (fun x => Nat.blt x.1 nx && (x.2.d.lt nx && (!x.2.nxt || Nat.blt (x.1 + 1) nx))) then some ⟨t, m, nx⟩ else none
  | _, _ => none

theorem pickT_spec {t : TM} : ∀ {l : List Nat} {t' : TM}, pickT t l = some t' → ∀ d v, find t' d = some v → find t d = some v
  | [], t', h, d, v, hv => by cases h; cases hv
  | d0 :: r, t', h, d, v, hv => by
    simp only [pickT] at h
    split at h <;> first | (cases h; done) | skip
    rename_i v0 t1 h0 h1
    cases h
    rw [find_cons] at hv
    by_cases e : d0 = d
    · rw [if_pos e] at hv; cases hv; subst e; exact h0
    · rw [if_neg e] at hv; exact pickT_spec h1 d v hv

theorem pickM_spec {m : Mem} : ∀ {l : List Nat} {m' : Mem}, pickM m l = some m' → ∀ k s, find m' k = some s → find m k = some s
  | [], m', h, d, v, hv => by cases h; cases hv
  | d0 :: r, m', h, d, v, hv => by
    simp only [pickM] at h
    split at h <;> first | (cases h; done) | skip
    rename_i v0 t1 h0 h1
    cases h
    rw [find_cons] at hv
    by_cases e : d0 = d
    · rw [if_pos e] at hv; cases hv; subst e; exact h0
    · rw [if_neg e] at hv; exact pickM_spec h1 d v hv

section
variable {P : Program} {H : Hook} {B : Nat} {cx : Cx} {sz lim : Nat} {orc : Orc} {R R' : Ex → St → Prop} {s s' : St} {l : List Code} {base : Nat}

theorem PostM.cut {ng : Nat} {ρ ρ' : Env} {m m' m'' : Mem} {nx nx' nx'' : Nat} {w w' : World} (h : PostM B ng ρ m nx w ρ' m' nx' w') (hs : ∀ k s, find m'' k = some s → find m' k = some s)
    (hw : ∀ k s, find m'' k = some s → k < nx'' ∧ s.d.lt nx'' = true ∧ (s.nxt = true → k + 1 < nx'')) (hle : nx ≤ nx'') (hng : ng ≤ nx) : PostM B ng ρ m nx w ρ' m'' nx'' w' :=
  ⟨h.ext, ⟨fun k s hk => (hw k s hk).1, fun k s hk => h.ok.segs k s (hs k s hk), fun k k' s s' hk hk' => h.ok.dis k k' s s' (hs k s hk) (hs k' s' hk'), h.ok.base, h.ok.glob, Nat.le_trans hng hle, fun k s hk => (hw k s hk).2⟩,
    h.frame, fun b o hb ⟨k, s, hk, r⟩ => h.sub b o hb ⟨k, s, hs k s hk, r⟩, fun b o hb ⟨k, s, hk, r⟩ => h.subR b o hb ⟨k, s, hs k s hk, r⟩, hle⟩

theorem find_all {α : Type} {l : List (Nat × α)} {f : Nat × α → Bool} (h : l.all f = true) {k : Nat} {v : α} (hk : find l k = some v) : f (k, v) = true := List.all_eq_true.1 h _ (find_mem l k v hk)

theorem cut_spec {ts ks : List Nat} {nx : Nat} {s s' : St} (h : cut ts ks nx s = some s') : s'.nx = nx ∧ (∀ d v, find s'.t d = some v → find s.t d = some v ∧ v.lt nx = true) ∧
    (∀ k g, find s'.m k = some g → find s.m k = some g ∧ k < nx ∧ g.d.lt nx = true ∧ (g.nxt = true → k + 1 < nx)) := by
  unfold cut at h
  split at h <;> first | (cases h; done) | skip
  rename_i t m ht hm
  cases hb : (t.all (fun x => x.2.lt nx) && m.all (fun x => Nat.blt x.1 nx && (x.2.d.lt nx && (!x.2.nxt || Nat.blt (x.1 + 1) nx)))) with
  | false => rw [hb] at h; cases h
  | true =>
    rw [hb, cond_true] at h
    cases h
    simp only [Bool.and_eq_true] at hb
    refine ⟨rfl, fun d v hv => ⟨pickT_spec ht d v hv, find_all hb.1 hv⟩, fun k g hk => ⟨pickM_spec hm k g hk, ?_⟩⟩
    have := find_all hb.2 hk
    simp only [Bool.and_eq_true, Bool.or_eq_true, blt_iff, Bool.not_eq_true'] at this
    exact ⟨this.1, this.2.1, fun hn => by rcases this.2.2 with h | h; (rw [hn] at h; cases h); exact h⟩

theorem Ok.cut {ρ0 ρ : Env} {m0 : Mem} {nx0 : Nat} {w0 : World} {a : Act} {w : World} {ts ks : List Nat} {nx : Nat} (hok : Ok B cx sz ρ s.t s.m s.nx a w) (hp : PostM B cx.ng ρ0 m0 nx0 w0 ρ s.m s.nx w) (h : Sx.cut ts ks nx s = some s') (hle : nx0 ≤ nx)
    (hng : cx.ng ≤ nx0) : Ok B cx sz ρ s'.t s'.m s'.nx a w ∧ PostM B cx.ng ρ0 m0 nx0 w0 ρ s'.m s'.nx w := by
  obtain ⟨e, h1, h2⟩ := cut_spec h
  have hp' : PostM B cx.ng ρ0 m0 nx0 w0 ρ s'.m s'.nx w := by
    rw [e]
    exact hp.cut (fun k g hk => (h2 k g hk).1) (fun k g hk => (h2 k g hk).2) hle hng
  refine ⟨⟨⟨fun d v hv => hok.tm.val d v (h1 d v hv).1, fun d v hv => by rw [e]; exact (h1 d v hv).2⟩, hok.size, hp'.ok, hok.noDefer⟩, hp'⟩

theorem execL_wp (hmix : P.follows .mixedOrders = true) (hT : TysOk P cx.T) (hH : HookOk P B cx.ng H) : ∀ (l : List Code) (r : List Code) (s s' : St) (ex : Ex) (ob : List Prop) (ρ : Env) (a : Act) (w : World) (Q : Exit → Act → World → Prop),
    execL cx H sz lim orc l s = some (ex, s', ob) → (∀ p ∈ ob, p) → Ok B cx sz ρ s.t s.m s.nx a w → (∀ a' w', Ends B cx sz ρ s.m s.nx w s' a' w' → Exit.then (wpCs P Q r) Q ex.to a' w') → wpCs P Q (l ++ r) a w
  | [], r, s, s', ex, ob, ρ, a, w, Q, h, hob, hok, hQ => by
    cases h
    exact hQ a w ⟨ρ, hok, PostM.refl hok.mem⟩
  | c :: l, r, s, s', ex, ob, ρ, a, w, Q, h, hob, hok, hQ => by
    simp only [execL] at h
    show c.wp P (Exit.then (wpCs P Q (l ++ r)) Q) a w
    split at h
    · rename_i s1 ob1 hf
      obtain ⟨ob', h1, rfl⟩ := addOb_spec h
      refine exec_wp hmix hT hH c s s1 .n ob1 ρ a w _ hf (fun p hp => hob p (by simp [hp])) hok fun a' w' ⟨ρ', hok', hp'⟩ => ?_
      exact execL_wp hmix hT hH l r s1 s' ex ob' ρ' a' w' Q h1 (fun p hp => hob p (by simp [hp])) hok' fun a2 w2 h2 => hQ a2 w2 (Ends.trans (t1 := []) (a1 := a) hp' h2)
    · rename_i q hr
      cases hf : exec cx H sz lim orc c s with
      | none => rw [hf] at h; cases h
      | some q =>
        obtain ⟨ex', s1, ob1⟩ := q
        rw [hf] at h
        cases h
        refine exec_wp hmix hT hH c s s' ex ob ρ a w _ hf hob hok fun a' w' he => ?_
        cases ex with
        | n => exact (hr _ _ hf).elim
        | x id => exact hQ a' w' he
        | r => exact hQ a' w' he

/-- the post relation, from a later state -/
theorem Fin.of_later {ρ ρ1 : Env} {m m1 : Mem} {b b' nx1 : Nat} {w w1 : World} (hp : PostM B cx.ng ρ m b w ρ1 m1 nx1 w1) (hb : b ≤ b') {e : Exit} {a' : Act} {w' : World} (h : Fin B cx sz R ρ1 m1 b' w1 e a' w') : Fin B cx sz R ρ m b w e a' w' := by
  obtain ⟨ex, s', h1, h2, ρ2, h3, h4⟩ := h
  exact ⟨ex, s', h1, h2, ρ2, h3, hp.transB h4 hb⟩

theorem wpCs_mono {Q Q' : Exit → Act → World → Prop} (hq : ∀ e a w, Q e a w → Q' e a w) : ∀ (l : List Code) (a : Act) (w : World), wpCs P Q l a w → wpCs P Q' l a w
  | [], a, w, h => hq _ _ _ h
  | c :: l, a, w, h => Code.wp_mono (fun e a w q => by
      cases e with
      | normal => exact wpCs_mono hq l a w q
      | _ => exact hq _ _ _ q) h

/-- **RUN**: the first pieces of code by the run, the state cut down, the rest by another triple. -/
theorem Tri.run (hmix : P.follows .mixedOrders = true) (hT : TysOk P cx.T) (hH : HookOk P B cx.ng H) (n : Nat) {s1 : St} {ob : List Prop} (hx : execL cx H sz lim orc (l.take n) s = some (.n, s1, ob)) (hob : ∀ p ∈ ob, p)
    {ts ks : List Nat} {nx : Nat} (hc : cut ts ks nx s1 = some s') (hle : s.nx ≤ nx) (h : Tri P B cx sz base (l.drop n) s' R) : Tri P B cx sz base l s R := by
  intro hng hbs ρ a w hok
  rw [show l = l.take n ++ l.drop n from (List.take_append_drop n l).symm]
  refine execL_wp hmix hT hH _ _ s s1 .n ob ρ a w _ hx hob hok fun a' w' ⟨ρ1, hok1, hp1⟩ => ?_
  obtain ⟨hok2, hp2⟩ := hok1.cut hp1 hc hle hok.mem.ng_le
  have hnx : s'.nx = nx := (cut_spec hc).1
  exact wpCs_mono (fun e a2 w2 q => Fin.of_later (hp2.low hbs) (Nat.le_refl _) q) _ a' w' (h hng (by omega) ρ1 a' w' hok2)

/-- **RUN TO THE END.** -/
theorem Tri.done (hmix : P.follows .mixedOrders = true) (hT : TysOk P cx.T) (hH : HookOk P B cx.ng H) {s1 : St} {ex : Ex} {ob : List Prop} (hx : execL cx H sz lim orc l s = some (ex, s1, ob)) (hob : ∀ p ∈ ob, p)
    {ts ks : List Nat} {nx : Nat} (hc : cut ts ks nx s1 = some s') (hle : s.nx ≤ nx) (h : R ex s') : Tri P B cx sz base l s R := by
  intro hng hbs ρ a w hok
  rw [show l = l ++ [] by simp]
  refine execL_wp hmix hT hH _ _ s s1 ex ob ρ a w _ hx hob hok fun a' w' ⟨ρ1, hok1, hp1⟩ => ?_
  obtain ⟨hok2, hp2⟩ := hok1.cut hp1 hc hle hok.mem.ng_le
  have key : Fin B cx sz R ρ s.m base w ex.to a' w' := ⟨ex, s', rfl, h, ρ1, hok2, hp2.low hbs⟩
  cases ex <;> exact key

theorem Tri.mono (h : Tri P B cx sz base l s R) (hR : ∀ ex s', R ex s' → R' ex s') : Tri P B cx sz base l s R' := fun hng hbs ρ a w hok =>
  wpCs_mono (fun e a' w' ⟨ex, s', h1, h2, h3⟩ => ⟨ex, s', h1, hR _ _ h2, h3⟩) _ a w (h hng hbs ρ a w hok)

theorem Tri.nil (h : R .n s) : Tri P B cx sz base [] s R := fun hng hbs ρ a w hok => ⟨.n, s, rfl, h, ρ, hok, (PostM.refl hok.mem).low hbs⟩

/-- the temporaries and keys that are named are enough -/
theorem Tri.weak {ts ks : List Nat} {nx : Nat} (hc : cut ts ks nx s = some s') (hle : s.nx ≤ nx) (h : Tri P B cx sz base l s' R) : Tri P B cx sz base l s R := by
  intro hng hbs ρ a w hok
  obtain ⟨hok2, hp2⟩ := hok.cut (PostM.refl hok.mem) hc hle hok.mem.ng_le
  have hnx : s'.nx = nx := (cut_spec hc).1
  exact wpCs_mono (fun e a2 w2 q => Fin.of_later (hp2.low hbs) (Nat.le_refl _) q) _ a w (h hng (by omega) ρ a w hok2)

/-- **A LOOP.** -/
theorem Tri.loop {ι : Type} {id : Nat} {c : Code} {r : List Code} (hl : l = .block id (.loop c) :: r) (st : ι → St) (μ : ι → Nat) (j0 : ι) (hs : s = st j0) (hnx : ∀ j, base ≤ (st j).nx) {R1 : St → Prop}
    (hbody : ∀ j, Tri P B cx sz base (flat c) (st j) fun ex s' => match ex with
      | .n => ∃ j', μ j' < μ j ∧ s' = st j'
      | .x i => if i = id then R1 s' else R (.x i) s'
      | .r => R .r s') (hrest : ∀ s', R1 s' → Tri P B cx sz base r s' R) : Tri P B cx sz base l s R := by
  intro hng hbs ρ a w hok
  subst hl
  subst hs
  show (Code.block id (.loop c)).wp P (Exit.then (wpCs P (Fin B cx sz R ρ (st j0).m base w) r) (Fin B cx sz R ρ (st j0).m base w)) a w
  refine wp_block ?_
  have key : ∀ n (j : ι) (ρ1 : Env) (a1 : Act) (w1 : World), μ j = n → Ok B cx sz ρ1 (st j).t (st j).m (st j).nx a1 w1 → PostM B cx.ng ρ (st j0).m base w ρ1 (st j).m (st j).nx w1 →
      Code.rounds P c (Exit.inBlock id (Exit.then (wpCs P (Fin B cx sz R ρ (st j0).m base w) r) (Fin B cx sz R ρ (st j0).m base w))) (n + 1) a1 w1 := by
    intro n
    induction n using Nat.strongRecOn with
    | ind n ih =>
      intro j ρ1 a1 w1 hj hok1 hp1
      have hb := flat_wp c _ a1 w1 (hbody j hng (hnx j) ρ1 a1 w1 hok1)
      refine Code.wp_mono (fun e a2 w2 ⟨ex, s2, he, hR, ρ2, hok2, hp2⟩ => ?_) hb
      subst he
      cases ex with
      | n =>
        obtain ⟨j', hlt, rfl⟩ := hR
        show Code.rounds P c _ n a2 w2
        have := ih (μ j') (by omega) j' ρ2 a2 w2 rfl hok2 (hp1.transB hp2 (Nat.le_refl _))
        -- more rounds do no harm
        refine (?_ : ∀ (k k' : Nat) (a : Act) (w : World), k ≤ k' → Code.rounds P c _ k a w → Code.rounds P c _ k' a w) (μ j' + 1) n a2 w2 (by omega) this
        intro k
        induction k with
        | zero => intro k' a w _ h; exact h.elim
        | succ k ihk =>
          intro k' a w hle h
          cases k' with
          | zero => omega
          | succ k' => exact Code.wp_mono (fun e a w q => by
              cases e with
              | normal => exact ihk k' a w (by omega) q
              | _ => exact q) h
      | x i =>
        show Exit.inBlock id _ (.exit i) a2 w2
        simp only [Exit.inBlock]
        by_cases hi : i = id
        · rw [if_pos hi]
          have hR' : R1 s2 := by have := hR; simp only [hi, if_true] at this; exact this
          exact wpCs_mono (fun e a3 w3 q => Fin.of_later (hp1.transB hp2 (Nat.le_refl _)) (Nat.le_refl _) q) _ a2 w2 (hrest s2 hR' hng hp2.le ρ2 a2 w2 hok2)
        · rw [if_neg hi]
          have hR' : R (.x i) s2 := by have := hR; simp only [hi, if_false] at this; exact this
          exact ⟨.x i, s2, rfl, hR', ρ2, hok2, hp1.transB hp2 (Nat.le_refl _)⟩
      | r => exact ⟨.r, s2, rfl, hR, ρ2, hok2, hp1.transB hp2 (Nat.le_refl _)⟩
  exact wp_loop_rounds _ (key _ j0 ρ a w rfl hok ((PostM.refl hok.mem).low hbs))

/-- **TWO WAYS.** -/
theorem Tri.cond {c : Operand} {x y : Code} {r : List Code} (hl : l = .cond c x y :: r) {b : Bool} (hc : evs cx s.t c = some (.b b)) (h1 : b = true → Tri P B cx sz base (flat x ++ r) s R) (h2 : b = false → Tri P B cx sz base (flat y ++ r) s R) : Tri P B cx sz base l s R := by
  intro hng hbs ρ a w hok
  subst hl
  have e := (evs_den hok.tm hok.mem.gl hc).1
  refine wp_cond_split (t := b) (by rw [e]; rfl) (fun hb => ?_) fun hb => ?_
  · exact flat_wp x _ a w (wpCs_append _ _ a w (h1 hb hng hbs ρ a w hok))
  · exact flat_wp y _ a w (wpCs_append _ _ a w (h2 hb hng hbs ρ a w hok))

/-- one way, known -/
theorem Tri.condT {c : Operand} {x y : Code} {r : List Code} (hl : l = .cond c x y :: r) {b : Bool} (hc : evs cx s.t c = some (.b b)) (hb : b = true) (h : Tri P B cx sz base (flat x ++ r) s R) : Tri P B cx sz base l s R :=
  Tri.cond hl hc (fun _ => h) fun e => by rw [hb] at e; cases e
theorem Tri.condF {c : Operand} {x y : Code} {r : List Code} (hl : l = .cond c x y :: r) {b : Bool} (hc : evs cx s.t c = some (.b b)) (hb : b = false) (h : Tri P B cx sz base (flat y ++ r) s R) : Tri P B cx sz base l s R :=
  Tri.cond hl hc (fun e => by rw [hb] at e; cases e) fun _ => h

theorem Tri.block {id : Nat} {c : Code} {r : List Code} (hl : l = .block id c :: r) {R1 : St → Prop} (hb : Tri P B cx sz base (flat c) s fun ex s' => match ex with
      | .n => R1 s'
      | .x i => if i = id then R1 s' else R (.x i) s'
      | .r => R .r s') (hrest : ∀ s', R1 s' → Tri P B cx sz base r s' R) : Tri P B cx sz base l s R := by
  intro hng hbs ρ a w hok
  subst hl
  refine wp_block (Code.wp_mono (fun e a2 w2 ⟨ex, s2, he, hR, ρ2, hok2, hp2⟩ => ?_) (flat_wp c _ a w (hb hng hbs ρ a w hok)))
  subst he
  have go : R1 s2 → wpCs P (Fin B cx sz R ρ s.m base w) r a2 w2 := fun h1 => wpCs_mono (fun e a3 w3 q => Fin.of_later hp2 (Nat.le_refl _) q) _ a2 w2 (hrest s2 h1 hng hp2.le ρ2 a2 w2 hok2)
  cases ex with
  | n => exact go hR
  | x i =>
    show Exit.inBlock id _ (.exit i) a2 w2
    simp only [Exit.inBlock]
    by_cases hi : i = id
    · rw [if_pos hi]
      have hR' : R1 s2 := by have := hR; simp only [hi, if_true] at this; exact this
      exact go hR'
    · rw [if_neg hi]
      have hR' : R (.x i) s2 := by have := hR; simp only [hi, if_false] at this; exact this
      exact ⟨.x i, s2, rfl, hR', ρ2, hok2, hp2⟩
  | r => exact ⟨.r, s2, rfl, hR, ρ2, hok2, hp2⟩

end
end Go.Sx
