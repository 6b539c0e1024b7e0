/- One operation at a time, calls by contract, and rows of operations in the text's order: the symbolic run and its soundness. Conditions: none; plain definitions and theorems over any program. -/
import Derived.Test.YtnloecdkogckiaaDoorSx9c
set_option linter.unusedVariables false
namespace Go.Sx
open Go.RowKit

/-- what is known of calls: a function, its arguments, the memory, the next free key: what the call comes to -/
abbrev Hook := FuncId → List SV → Mem → Nat → Option Ef

/-- a call of f enters its body and comes to e, whatever lies around -/
def FnE (P : Program) (B ng : Nat) (f : FuncId) (args : List SV) (m : Mem) (nx : Nat) (e : Ef) : Prop :=
  (∀ args w, (callFunc f args).run P w = .ok (.enter f args) w) ∧
  ∀ ρ w, MemOk B ng ρ m nx w → Calls P f (args.map (SV.den ρ)).toArray w fun en w' => ∃ ρ', en = .returned (e.v.den ρ') ∧ PostM B ng ρ m nx w ρ' e.m e.nx w'

/-- a call of f comes to e, whatever lies around -/
def FnOk (P : Program) (B ng : Nat) (f : FuncId) (args : List SV) (m : Mem) (nx : Nat) (e : Ef) : Prop :=
  e.v.lt e.nx = true ∧ (FnE P B ng f args m nx e ∨
  (e.m = m ∧ e.nx = nx ∧ ∀ ρ w, (callFunc f (args.map (SV.den ρ)).toArray).run P w = .ok (.value (e.v.den ρ)) w))

/-- a hook tells the truth -/
def HookOk (P : Program) (B ng : Nat) (H : Hook) : Prop :=
  ∀ f args m nx e, H f args m nx = some e → (∀ p ∈ e.ob, p) → args.all (SV.lt nx) = true → FnOk P B ng f args m nx e ∧ KOk e m nx

def evList (cx : Cx) (t : TM) : List Operand → Option (List SV)
  | [] => some []
  | x :: r => match ev cx t x, evList cx t r with
    | some v, some vs => some (v :: vs)
    | _, _ => none

def opM (cx : Cx) (H : Hook) (t : TM) (m : Mem) (nx : Nat) (o : Op) : Option Ef :=
  match pureX cx t m o with
  | some (v, ob) => some ⟨v, m, nx, .pure, ob⟩
  | none => match o with
    | .load ty x => match loadM cx t m ty x with
      | some (v, ob) => some ⟨v, m, nx, .read, ob⟩
      | none => none
    | .store ty x y => match storeM cx t m ty x y with
      | some (m', ob) => some ⟨undefS, m', nx, .eff, ob⟩
      | none => none
    | .call c => match c.callee with
      | .builtin .copy => match c.args.toList with
        | [x, y] => match copyM cx t m (match c.argTypes[0]? with
            | some ty => tyOf cx ty
            | none => none) x y with
          | some (v, m', ob) => some ⟨v, m', nx, .eff, ob⟩
          | none => none
        | _ => none
      | .value (.func f) => match evList cx t c.args.toList with
        | some vs => H f vs m nx
        | none => none
      | _ => extM cx t m nx (.call c)
    | o => match newM cx t nx o with
      | some (v, L, ob) => some ⟨v, addM nx L m, nx + L.length, .new L, ob⟩
      | none => extM cx t m nx o

/-- what the state says of a frame and a world -/
structure Ok (B : Nat) (cx : Cx) (sz : Nat) (ρ : Env) (t : TM) (m : Mem) (nx : Nat) (a : Act) (w : World) : Prop where
  tm : TmOk ρ t nx a
  size : a.tmps.size = sz
  mem : MemOk B cx.ng ρ m nx w
  noDefer : a.defers = []

section
variable {P : Program} {cx : Cx} {H : Hook} {B : Nat} {ρ : Env} {t : TM} {m : Mem} {nx : Nat} {a : Act} {w : World}

theorem MemOk.stat {ng : Nat} (h : MemOk B ng ρ m nx w) : StatOk ρ m :=
  ⟨fun k s hk => (h.segs k s hk).cap, fun k s hk => (h.segs k s hk).nil, fun k s hk => (h.segs k s hk).next⟩

theorem MemOk.gl (h : MemOk B cx.ng ρ m nx w) : GlOk cx ρ nx := ⟨h.ng_le, h.glob⟩

theorem wp_of_value {o : Oper} {v : Value} {w' : World} {K : Act → World → Prop} {Q : Exit → Act → World → Prop} (h : (execOp a.eval o).run P w = .ok (.value v) w') (hk : K (a.put o.dst v) w') : o.wp P a w K Q := by
  unfold Oper.wp; rw [h]; exact hk

theorem wp_of_skip {o : Oper} {w' : World} {K : Act → World → Prop} {Q : Exit → Act → World → Prop} (h : (execOp a.eval o).run P w = .ok .skip w') (hk : K (a.put o.dst undef) w') : o.wp P a w K Q := by
  unfold Oper.wp; rw [h]; exact hk

theorem wp_of_enter {o : Oper} {f : FuncId} {args : Array Value} {K : Act → World → Prop} {Q : Exit → Act → World → Prop} (h : (execOp a.eval o).run P w = .ok (.enter f args) w)
    (hk : Calls P f args w fun en w' => ∃ v, en = .returned v ∧ K (a.put o.dst v) w') : o.wp P a w K Q := by
  unfold Oper.wp; rw [h]
  exact hk.mono fun en w' ⟨v, e, hK⟩ => by subst e; exact hK

theorem evList_den (ht : TmOk ρ t nx a) (hg : GlOk cx ρ nx) : ∀ (l : List Operand) (vs : List SV), evList cx t l = some vs → l.map a.eval = vs.map (SV.den ρ) ∧ vs.all (SV.lt nx) = true
  | [], vs, h => by cases h; exact ⟨rfl, rfl⟩
  | x :: r, vs, h => by
    simp only [evList] at h
    split at h <;> first | (cases h; done) | skip
    rename_i v vs' hv hvs
    cases h
    obtain ⟨e1, e2⟩ := ev_den ht hg hv
    obtain ⟨i1, i2⟩ := evList_den ht hg r vs' hvs
    exact ⟨by simp [e1, i1], by simp [e2, i2]⟩

/-- the run of an operation that is a call of a function -/
theorem run_callOp {o : Oper} {c : Call} {f : FuncId} (ho : o.op = .call c) (hc : c.callee = .value (.func f)) : (execOp a.eval o).run P w = (callFunc f (c.args.map a.eval)).run P w := by
  simp [execOp, ho, resolve, hc, Act.eval, Deferred.ofValue, invoke]

/-- **ONE OPERATION.** -/
theorem opM_wp (hT : TysOk P cx.T) (hH : HookOk P B cx.ng H) {sz : Nat} (hok : Ok B cx sz ρ t m nx a w) {o : Oper} {e : Ef} (h : opM cx H t m nx o.op = some e) (hob : ∀ p ∈ e.ob, p)
    {K : Act → World → Prop} {Q : Exit → Act → World → Prop} (hK : ∀ ρ' w', PostM B cx.ng ρ m nx w ρ' e.m e.nx w' → e.v.lt e.nx = true → K (a.put o.dst (e.v.den ρ')) w') : o.wp P a w K Q := by
  have hg := hok.mem.gl
  have ofW : ∀ {v : SV} {m' : Mem} {nx' : Nat}, Writes P B cx.ng ρ m nx a o v m' nx' → e.v = v → e.m = m' → e.nx = nx' → o.wp P a w K Q := by
    intro v m' nx' hW e1 e2 e3
    obtain ⟨hv, hw⟩ := hW
    obtain ⟨ρ', w', hr, hp⟩ := hw w hok.mem
    subst e1 e2 e3
    rcases hr with hr | ⟨hr, hu⟩
    · exact wp_of_value hr (hK ρ' w' hp hv)
    · exact wp_of_skip hr (by rw [← hu]; exact hK ρ' w' hp hv)
  unfold opM at h
  split at h
  · rename_i v ob hv
    cases h
    obtain ⟨c1, c2⟩ := pure_comp (P := P) hT hok.tm hg hok.mem.stat hok.mem.keys hv hob
    exact wp_of_value (c2 w) (hK ρ w (PostM.refl hok.mem) c1)
  · split at h
    · rename_i ty x ho
      split at h <;> first | (cases h; done) | skip
      rename_i v ob hv
      cases h
      obtain ⟨c1, c2⟩ := load_reads (P := P) (B := B) (ng := cx.ng) hT hok.tm hg (fun k s hk => (hok.mem.wf k s hk).1) ho hv hob
      exact wp_of_value (c2 w hok.mem) (hK ρ w (PostM.refl hok.mem) c1)
    · rename_i ty x y ho
      split at h <;> first | (cases h; done) | skip
      rename_i m' ob hv
      cases h
      exact ofW (store_writes (P := P) (B := B) (ng := cx.ng) hT hok.tm hg ho hv hob) rfl rfl rfl
    · rename_i c ho
      split at h <;> first | (cases h; done) | skip
      · rename_i hc
        split at h <;> first | (cases h; done) | skip
        rename_i x y hargs
        split at h <;> first | (cases h; done) | skip
        rename_i v m' ob hv
        cases h
        exact ofW (copy_writes (P := P) (B := B) (ng := cx.ng) hT hok.tm hg ho hc hargs hv hob) rfl rfl rfl
      · rename_i f hc
        split at h <;> first | (cases h; done) | skip
        rename_i vs hvs
        obtain ⟨e1, e2⟩ := evList_den hok.tm hg _ _ hvs
        obtain ⟨⟨f1, f23⟩, _⟩ := hH f vs m nx e h hob e2
        have harr : c.args.map a.eval = (vs.map (SV.den ρ)).toArray := by
          apply Array.ext'
          rw [Array.toList_map]; exact e1
        have hrun := run_callOp (P := P) (a := a) (w := w) ho hc
        rw [harr] at hrun
        rcases f23 with ⟨f2, f3⟩ | ⟨f2, f3, f4⟩
        · rw [f2] at hrun
          exact wp_of_enter hrun ((f3 ρ w hok.mem).mono fun en w' ⟨ρ', hr, hp⟩ => ⟨_, hr, hK ρ' w' hp f1⟩)
        · rw [f4 ρ w] at hrun
          refine wp_of_value hrun (hK ρ w ?_ f1)
          rw [f2, f3]; exact PostM.refl hok.mem
      · exact ofW (ext_all (P := P) (B := B) (ng := cx.ng) hT hok.tm hg (o := o) (by rw [ho]; exact h) hob).1 rfl rfl rfl
    · split at h
      · rename_i v L ob hv
        cases h
        exact ofW (new_all (P := P) (B := B) (ng := cx.ng) hT hok.tm hg hv hob) rfl rfl rfl
      · exact ofW (ext_all (P := P) (B := B) (ng := cx.ng) hT hok.tm hg h hob).1 rfl rfl rfl

theorem opM_kind (hT : TysOk P cx.T) (hH : HookOk P B cx.ng H) (ht : TmOk ρ t nx a) (hg : GlOk cx ρ nx) {o : Op} {e : Ef} (h : opM cx H t m nx o = some e) (hob : ∀ p ∈ e.ob, p) : KOk e m nx := by
  unfold opM at h
  split at h
  · cases h; exact ⟨rfl, rfl⟩
  · split at h
    · split at h <;> first | (cases h; done) | skip
      cases h; exact ⟨rfl, rfl⟩
    · split at h <;> first | (cases h; done) | skip
      cases h; exact trivial
    · split at h <;> first | (cases h; done) | skip
      · split at h <;> first | (cases h; done) | skip
        split at h <;> first | (cases h; done) | skip
        cases h; exact trivial
      · split at h <;> first | (cases h; done) | skip
        rename_i vs hvs
        exact (hH _ vs m nx e h hob (evList_den ht hg _ _ hvs).2).2
      · exact (ext_all (P := P) (B := B) (ng := cx.ng) (ρ := ρ) (a := a) hT ht hg (o := ⟨none, _, 0, "", #[], none⟩) h hob).2
    · split at h
      · cases h; exact ⟨rfl, rfl⟩
      · exact (ext_all (P := P) (B := B) (ng := cx.ng) (ρ := ρ) (a := a) hT ht hg (o := ⟨none, _, 0, "", #[], none⟩) h hob).2

/-- a temporary put -/
theorem Ok.put {sz : Nat} {ρ' : Env} {m' : Mem} {nx' : Nat} {w' : World} (hok : Ok B cx sz ρ t m nx a w) (hp : PostM B cx.ng ρ m nx w ρ' m' nx' w') {v : SV} (hv : v.lt nx' = true) {d : Nat} (hd : d < sz) :
    Ok B cx sz ρ' ((d, v) :: t) m' nx' (a.put (some d) (v.den ρ')) w' := by
  refine ⟨⟨fun i u hu => ?_, fun i u hu => ?_⟩, by simp [Act.put, hok.size], hp.ok, hok.noDefer⟩
  · rw [find_cons] at hu
    simp only [Act.put]
    by_cases hi : d = i
    · subst hi
      rw [if_pos rfl] at hu
      cases hu
      have : d < a.tmps.size := by rw [hok.size]; exact hd
      simp [Array.getD, this]
    · rw [if_neg hi] at hu
      have h1 := hok.tm.val i u hu
      have h2 : (a.tmps.setIfInBounds d (v.den ρ')).getD i undef = a.tmps.getD i undef := by
        simp only [Array.getD_eq_getD_getElem?, Array.getElem?_setIfInBounds_ne hi]
      rw [h2, h1]
      exact (SV.den_congr hp.ext (hok.tm.wf i u hu)).symm
  · rw [find_cons] at hu
    by_cases hi : d = i
    · rw [if_pos hi] at hu; cases hu; exact hv
    · rw [if_neg hi] at hu; exact SV.lt_mono hp.le (hok.tm.wf i u hu)

theorem Ok.post {sz : Nat} {ρ' : Env} {m' : Mem} {nx' : Nat} {w' : World} (hok : Ok B cx sz ρ t m nx a w) (hp : PostM B cx.ng ρ m nx w ρ' m' nx' w') : Ok B cx sz ρ' t m' nx' a w' :=
  ⟨⟨fun i u hu => by rw [hok.tm.val i u hu]; exact (SV.den_congr hp.ext (hok.tm.wf i u hu)).symm, fun i u hu => SV.lt_mono hp.le (hok.tm.wf i u hu)⟩, hok.size, hp.ok, hok.noDefer⟩

end

/-! ### Rows of operations in the text's order -/

structure St where
  t : TM
  m : Mem
  nx : Nat

/-- which way conditions go that are not decided: by the temporary that holds them, and by what the others hold -/
abbrev Orc := TM → Nat → Option Bool
def orcL (l : List (Nat × Bool)) : Orc := fun _ d => find l d
def noOrc : Orc := fun _ _ => none

def wantX (orc : Orc) (t : TM) (ops : List Oper) (o : Oper) : Option (Bool × List Prop) :=
  match o.guard with
  | none => some (true, [])
  | some (j, want) => match ops[j]? with
    | some oj => match oj.dst with
      | some d => match find t d with
        | some (.one (.s (.b x))) => match orc t d with
          | some b => some ((b == want), [x = b])
          | none => match x with
            | true => some (want, [])
            | false => some (!want, [])
        | _ => none
      | none => none
    | none => none

def putT (sz : Nat) (t : TM) (dst : Option Nat) (v : SV) : Option TM :=
  match dst with
  | some d => bif Nat.blt d sz then some ((d, v) :: t) else none
  | none => some t

def runL (cx : Cx) (H : Hook) (sz : Nat) (orc : Orc) (ops : List Oper) : List Oper → St → Option (St × List Prop)
  | [], s => some (s, [])
  | o :: r, s => match wantX orc s.t ops o with
    | some (true, ob0) => match opM cx H s.t s.m s.nx o.op with
      | some e => match putT sz s.t o.dst e.v with
        | some t' => match runL cx H sz orc ops r ⟨t', e.m, e.nx⟩ with
          | some (s', ob) => some (s', ob0 ++ (e.ob ++ ob))
          | none => none
        | none => none
      | none => none
    | some (false, ob0) => match putT sz s.t o.dst undefS with
      | some t' => match runL cx H sz orc ops r ⟨t', s.m, s.nx⟩ with
        | some (s', ob) => some (s', ob0 ++ ob)
        | none => none
      | none => none
    | none => none

section
variable {P : Program} {cx : Cx} {H : Hook} {B : Nat} {sz : Nat}

theorem wantX_tm {orc : Orc} {ρ : Env} {t : TM} {nx : Nat} {a : Act} (htm : TmOk ρ t nx a) {ops : List Oper} {o : Oper} {b : Bool} {ob : List Prop}
    (h : wantX orc t ops o = some (b, ob)) (hob : ∀ p ∈ ob, p) : Region.wanted o (yielded ops.toArray a.tmps) = b := by
  unfold wantX at h
  unfold Region.wanted
  split at h
  · rename_i hg
    cases h
    rw [hg]
  · rename_i j want hg
    rw [hg]
    split at h <;> first | (cases h; done) | skip
    rename_i oj hj
    split at h <;> first | (cases h; done) | skip
    rename_i d hd
    split at h <;> first | (cases h; done) | skip
    rename_i x hx
    have hval := htm.val d _ hx
    have hdlt : d < a.tmps.size := by
      rcases Nat.lt_or_ge d a.tmps.size with h1 | h1
      · exact h1
      · rw [Array.getD, dif_neg (by omega)] at hval
        cases hval
    have hy : yielded ops.toArray a.tmps j = some x := by
      have h1 : a.tmps[d]? = some (.bool x) := by
        rw [Array.getElem?_eq_getElem hdlt]
        simp only [Array.getD, hdlt, dif_pos] at hval
        rw [show a.tmps[d] = Value.bool x from hval]
      simp [yielded, hj, hd, h1]
    show (yielded ops.toArray a.tmps j == some want) = b
    rw [hy]
    split at h
    · rename_i b' hb'
      cases h
      have : x = b' := hob _ (by simp)
      rw [this]; cases b' <;> cases want <;> rfl
    · split at h
      · cases h; cases b <;> rfl
      · cases h; cases want <;> rfl

theorem wantX_spec {orc : Orc} {ρ : Env} {t : TM} {m : Mem} {nx : Nat} {a : Act} {w : World} (hok : Ok B cx sz ρ t m nx a w) {ops : List Oper} {o : Oper} {b : Bool} {ob : List Prop}
    (h : wantX orc t ops o = some (b, ob)) (hob : ∀ p ∈ ob, p) : Region.wanted o (yielded ops.toArray a.tmps) = b := wantX_tm hok.tm h hob

/-- what lies behind: the state, after some exit -/
def Ends (B : Nat) (cx : Cx) (sz : Nat) (ρ : Env) (m : Mem) (nx : Nat) (w : World) (s : St) (a' : Act) (w' : World) : Prop :=
  ∃ ρ', Ok B cx sz ρ' s.t s.m s.nx a' w' ∧ PostM B cx.ng ρ m nx w ρ' s.m s.nx w'

theorem putT_spec {t t' : TM} {dst : Option Nat} {v : SV} {ρ ρ' : Env} {m m' : Mem} {nx nx' : Nat} {a : Act} {w w' : World} (hok : Ok B cx sz ρ t m nx a w) (hp : PostM B cx.ng ρ m nx w ρ' m' nx' w') (hv : v.lt nx' = true)
    (h : putT sz t dst v = some t') : Ok B cx sz ρ' t' m' nx' (a.put dst (v.den ρ')) w' := by
  cases dst with
  | none => simp only [putT, Option.some.injEq] at h; subst h; exact hok.post hp
  | some d =>
    simp only [putT] at h
    cases hb : Nat.blt d sz with
    | false => rw [hb] at h; cases h
    | true => rw [hb, cond_true] at h; cases h; exact hok.put hp hv (blt_iff.1 hb)

/-- **A ROW OF OPERATIONS, IN THE TEXT's ORDER.** -/
theorem runL_wp (hT : TysOk P cx.T) (hH : HookOk P B cx.ng H) {orc : Orc} {ops : List Oper} {Q : Exit → Act → World → Prop} :
    ∀ (l : List Oper) (s s' : St) (ob : List Prop) (ρ : Env) (a : Act) (w : World), runL cx H sz orc ops l s = some (s', ob) → (∀ p ∈ ob, p) → Ok B cx sz ρ s.t s.m s.nx a w →
      (∀ a' w', Ends B cx sz ρ s.m s.nx w s' a' w' → Q .normal a' w') → wpList P ops.toArray Q l a w
  | [], s, s', ob, ρ, a, w, h, hob, hok, hQ => by
    cases h
    exact hQ a w ⟨ρ, hok, PostM.refl hok.mem⟩
  | o :: l, s, s', ob, ρ, a, w, h, hob, hok, hQ => by
    simp only [runL] at h
    split at h <;> first | (cases h; done) | skip
    · rename_i ob0 hw
      split at h <;> first | (cases h; done) | skip
      rename_i e he
      split at h <;> first | (cases h; done) | skip
      rename_i t' ht'
      split at h <;> first | (cases h; done) | skip
      rename_i s2 ob2 h2
      cases h
      have hwant := wantX_spec hok hw (fun p hp => hob p (by simp [hp]))
      unfold wpList
      rw [hwant, if_pos rfl]
      left
      refine opM_wp hT hH hok he (fun p hp => hob p (by simp [hp])) fun ρ' w' hp hv => ?_
      have hok' := putT_spec hok hp hv ht'
      refine runL_wp hT hH l _ _ _ ρ' _ w' h2 (fun p hp => hob p (by simp [hp])) hok' fun a' w'' ⟨ρ'', hok'', hp''⟩ => hQ a' w'' ⟨ρ'', hok'', hp.trans hp''⟩
    · rename_i ob0 hw
      split at h <;> first | (cases h; done) | skip
      rename_i t' ht'
      split at h <;> first | (cases h; done) | skip
      rename_i s2 ob2 h2
      cases h
      have hwant := wantX_spec hok hw (fun p hp => hob p (by simp [hp]))
      unfold wpList
      rw [hwant, if_neg (by simp)]
      have hok' := putT_spec (v := undefS) hok (PostM.refl hok.mem) rfl ht'
      exact runL_wp hT hH l _ _ _ ρ _ w h2 (fun p hp => hob p (by simp [hp])) hok' hQ

end
end Go.Sx
