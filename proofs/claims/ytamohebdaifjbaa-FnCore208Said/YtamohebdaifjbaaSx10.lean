/- One operation at a time, calls by contract, and rows of operations in the text's order: the symbolic run and its soundness. What keys a symbolic value names; and how a run over a part of the memory is a run over the whole, new keys lying where they like. Conditions: none; plain definitions and theorems over any program. -/
import Derived.Test.YtamohebdaifjbaaSx9b
set_option linter.unusedVariables false
namespace Go.Sx
open Go.RowKit

/-- what is known of calls: a function, its arguments, the memory, the next free key: what the call comes to -/
abbrev Hook := FuncId → List SV → Mem → Nat → Option Ef

/-- a call of f enters its body and comes to e, whatever lies around -/
def FnE (P : Program) (B ng : Nat) (f : FuncId) (args : List SV) (m : Mem) (nx : Nat) (e : Ef) : Prop :=
  (∀ args w, (callFunc f args).run P w = .ok (.enter f args) w) ∧
  ∀ ρ w, MemOk B ng ρ m nx w → Calls P f (args.map (SV.den ρ)).toArray w fun en w' => ∃ ρ', en = .returned (e.v.den ρ') ∧ PostM B ng ρ m nx w ρ' e.m e.nx w'

/-- a call of f comes to e, whatever lies around -/
def FnOk (P : Program) (B ng : Nat) (f : FuncId) (args : List SV) (m : Mem) (nx : Nat) (e : Ef) : Prop :=
  e.v.lt e.nx = true ∧ (FnE P B ng f args m nx e ∨
  (e.m = m ∧ e.nx = nx ∧ ∀ ρ w, (callFunc f (args.map (SV.den ρ)).toArray).run P w = .ok (.value (e.v.den ρ)) w))

/-- a hook tells the truth -/
def HookOk (P : Program) (B ng : Nat) (H : Hook) : Prop :=
  ∀ f args m nx e, H f args m nx = some e → (∀ p ∈ e.ob, p) → args.all (SV.lt nx) = true → FnOk P B ng f args m nx e ∧ KOk e m nx

def evList (cx : Cx) (t : TM) : List Operand → Option (List SV)
  | [] => some []
  | x :: r => match ev cx t x, evList cx t r with
    | some v, some vs => some (v :: vs)
    | _, _ => none

def opM (cx : Cx) (H : Hook) (t : TM) (m : Mem) (nx : Nat) (o : Op) : Option Ef :=
  match pureX cx t m o with
  | some (v, ob) => some ⟨v, m, nx, .pure, ob⟩
  | none => match o with
    | .load ty x => match loadM cx t m ty x with
      | some (v, ob) => some ⟨v, m, nx, .read, ob⟩
      | none => none
    | .store ty x y => match storeM cx t m ty x y with
      | some (m', ob) => some ⟨undefS, m', nx, .eff, ob⟩
      | none => none
    | .call c => match c.callee with
      | .builtin .copy => match c.args.toList with
        | [x, y] => match copyM cx t m (match c.argTypes[0]? with
            | some ty => tyOf cx ty
            | none => none) x y with
          | some (v, m', ob) => some ⟨v, m', nx, .eff, ob⟩
          | none => none
        | _ => none
      | .value (.func f) => match evList cx t c.args.toList with
        | some vs => H f vs m nx
        | none => none
      | .invoke r n => match evs cx t r, evList cx t c.args.toList with
        | some (.f ty x), some vs => match tyOf cx ty with
          | some (.mp n' f) => match H f (.one (.s x) :: vs) m nx with
            | some e => some { e with ob := (n = n') :: e.ob }
            | none => none
          | _ => none
        | _, _ => none
      | _ => extM cx t m nx (.call c)
    | o => match newM cx t nx o with
      | some (v, L, ob) => some ⟨v, addM nx L m, nx + L.length, .new L, ob⟩
      | none => extM cx t m nx o

/-- what the state says of a frame and a world -/
structure Ok (B : Nat) (cx : Cx) (sz : Nat) (ρ : Env) (t : TM) (m : Mem) (nx : Nat) (a : Act) (w : World) : Prop where
  tm : TmOk ρ t nx a
  size : a.tmps.size = sz
  mem : MemOk B cx.ng ρ m nx w
  noDefer : a.defers = []

section
variable {P : Program} {cx : Cx} {H : Hook} {B : Nat} {ρ : Env} {t : TM} {m : Mem} {nx : Nat} {a : Act} {w : World}

theorem MemOk.stat {ng : Nat} (h : MemOk B ng ρ m nx w) : StatOk ρ m :=
  ⟨fun k s hk => (h.segs k s hk).cap, fun k s hk => (h.segs k s hk).nil, fun k s hk => (h.segs k s hk).next⟩

theorem MemOk.gl (h : MemOk B cx.ng ρ m nx w) : GlOk cx ρ nx := ⟨h.ng_le, h.glob⟩

theorem wp_of_value {o : Oper} {v : Value} {w' : World} {K : Act → World → Prop} {Q : Exit → Act → World → Prop} (h : (execOp a.eval o).run P w = .ok (.value v) w') (hk : K (a.put o.dst v) w') : o.wp P a w K Q := by
  unfold Oper.wp; rw [h]; exact hk

theorem wp_of_skip {o : Oper} {w' : World} {K : Act → World → Prop} {Q : Exit → Act → World → Prop} (h : (execOp a.eval o).run P w = .ok .skip w') (hk : K (a.put o.dst undef) w') : o.wp P a w K Q := by
  unfold Oper.wp; rw [h]; exact hk

theorem wp_of_enter {o : Oper} {f : FuncId} {args : Array Value} {K : Act → World → Prop} {Q : Exit → Act → World → Prop} (h : (execOp a.eval o).run P w = .ok (.enter f args) w)
    (hk : Calls P f args w fun en w' => ∃ v, en = .returned v ∧ K (a.put o.dst v) w') : o.wp P a w K Q := by
  unfold Oper.wp; rw [h]
  exact hk.mono fun en w' ⟨v, e, hK⟩ => by subst e; exact hK

theorem evList_den (ht : TmOk ρ t nx a) (hg : GlOk cx ρ nx) : ∀ (l : List Operand) (vs : List SV), evList cx t l = some vs → l.map a.eval = vs.map (SV.den ρ) ∧ vs.all (SV.lt nx) = true
  | [], vs, h => by cases h; exact ⟨rfl, rfl⟩
  | x :: r, vs, h => by
    simp only [evList] at h
    split at h <;> first | (cases h; done) | skip
    rename_i v vs' hv hvs
    cases h
    obtain ⟨e1, e2⟩ := ev_den ht hg hv
    obtain ⟨i1, i2⟩ := evList_den ht hg r vs' hvs
    exact ⟨by simp [e1, i1], by simp [e2, i2]⟩

/-- the run of an operation that is a call of a function -/
theorem run_callOp {o : Oper} {c : Call} {f : FuncId} (ho : o.op = .call c) (hc : c.callee = .value (.func f)) : (execOp a.eval o).run P w = (callFunc f (c.args.map a.eval)).run P w := by
  simp [execOp, ho, resolve, hc, Act.eval, Deferred.ofValue, invoke]

/-- the run of an operation that is a call through an interface -/
theorem run_invOp {o : Oper} {c : Call} {r : Operand} {n : String} {ty e : TypeId} {i : TypeInfo} {row : Method} {f : FuncId} {v : Value} (ho : o.op = .call c) (hc : c.callee = .invoke r n) (hr : a.eval r = .iface ty v)
    (hu : P.underlying ty = some (.pointer e)) (hi : P.info? ty = some i) (hm : i.methods.find? (·.name == n) = some row) (hp : row.path = #[]) (hf : row.func = some (f, true)) :
    (execOp a.eval o).run P w = (callFunc f (#[v] ++ c.args.map a.eval)).run P w := by
  have hx := method_mp (P := P) hu hi hm hp hf v P.types.size w
  have h0 : (#[Value.iface ty v] ++ Array.map a.eval c.args)[0]? = some (Value.iface ty v) := by
    rw [Array.getElem?_append_left (by simp)]; rfl
  have h1 : (Array.map a.eval c.args).extract 0 c.args.size = Array.map a.eval c.args := by
    have : c.args.size = (Array.map a.eval c.args).size := by simp
    rw [this, Array.extract_size]
  simp [execOp, ho, resolve, hc, invoke, hr, callMethod, hx, h0, h1]

/-- **ONE OPERATION.** -/
theorem opM_wp (hT : TysOk P cx.T) (hH : HookOk P B cx.ng H) {sz : Nat} (hok : Ok B cx sz ρ t m nx a w) {o : Oper} {e : Ef} (h : opM cx H t m nx o.op = some e) (hob : ∀ p ∈ e.ob, p)
    {K : Act → World → Prop} {Q : Exit → Act → World → Prop} (hK : ∀ ρ' w', PostM B cx.ng ρ m nx w ρ' e.m e.nx w' → e.v.lt e.nx = true → K (a.put o.dst (e.v.den ρ')) w') : o.wp P a w K Q := by
  have hg := hok.mem.gl
  have ofW : ∀ {v : SV} {m' : Mem} {nx' : Nat}, Writes P B cx.ng ρ m nx a o v m' nx' → e.v = v → e.m = m' → e.nx = nx' → o.wp P a w K Q := by
    intro v m' nx' hW e1 e2 e3
    obtain ⟨hv, hw⟩ := hW
    obtain ⟨ρ', w', hr, hp⟩ := hw w hok.mem
    subst e1 e2 e3
    rcases hr with hr | ⟨hr, hu⟩
    · exact wp_of_value hr (hK ρ' w' hp hv)
    · exact wp_of_skip hr (by rw [← hu]; exact hK ρ' w' hp hv)
  unfold opM at h
  split at h
  · rename_i v ob hv
    cases h
    obtain ⟨c1, c2⟩ := pure_comp (P := P) hT hok.tm hg hok.mem.stat hok.mem.keys hv hob
    exact wp_of_value (c2 w) (hK ρ w (PostM.refl hok.mem) c1)
  · split at h
    · rename_i ty x ho
      split at h <;> first | (cases h; done) | skip
      rename_i v ob hv
      cases h
      obtain ⟨c1, c2⟩ := load_reads (P := P) (B := B) (ng := cx.ng) hT hok.tm hg (fun k s hk => (hok.mem.wf k s hk).1) ho hv hob
      exact wp_of_value (c2 w hok.mem) (hK ρ w (PostM.refl hok.mem) c1)
    · rename_i ty x y ho
      split at h <;> first | (cases h; done) | skip
      rename_i m' ob hv
      cases h
      exact ofW (store_writes (P := P) (B := B) (ng := cx.ng) hT hok.tm hg ho hv hob) rfl rfl rfl
    · rename_i c ho
      split at h <;> first | (cases h; done) | skip
      · rename_i hc
        split at h <;> first | (cases h; done) | skip
        rename_i x y hargs
        split at h <;> first | (cases h; done) | skip
        rename_i v m' ob hv
        cases h
        exact ofW (copy_writes (P := P) (B := B) (ng := cx.ng) hT hok.tm hg ho hc hargs hv hob) rfl rfl rfl
      · rename_i f hc
        split at h <;> first | (cases h; done) | skip
        rename_i vs hvs
        obtain ⟨e1, e2⟩ := evList_den hok.tm hg _ _ hvs
        obtain ⟨⟨f1, f23⟩, _⟩ := hH f vs m nx e h hob e2
        have harr : c.args.map a.eval = (vs.map (SV.den ρ)).toArray := by
          apply Array.ext'
          rw [Array.toList_map]; exact e1
        have hrun := run_callOp (P := P) (a := a) (w := w) ho hc
        rw [harr] at hrun
        rcases f23 with ⟨f2, f3⟩ | ⟨f2, f3, f4⟩
        · rw [f2] at hrun
          exact wp_of_enter hrun ((f3 ρ w hok.mem).mono fun en w' ⟨ρ', hr, hp⟩ => ⟨_, hr, hK ρ' w' hp f1⟩)
        · rw [f4 ρ w] at hrun
          refine wp_of_value hrun (hK ρ w ?_ f1)
          rw [f2, f3]; exact PostM.refl hok.mem
      · rename_i r n hc
        split at h <;> first | (cases h; done) | skip
        rename_i ty x vs hr hvs
        split at h <;> first | (cases h; done) | skip
        rename_i n' f hty
        split at h <;> first | (cases h; done) | skip
        rename_i e' he'
        cases h
        have hn : n = n' := hob (n = n') (by simp)
        subst hn
        obtain ⟨ti, hti, hok'⟩ := tyOf_ok hT hty
        have hd := hok'.desc
        rw [hti] at hd
        obtain ⟨ee, ii, row, hu, hi, hm, hp, hf⟩ := hd
        obtain ⟨er, lr⟩ := evs_den hok.tm hg hr
        obtain ⟨e1, e2⟩ := evList_den hok.tm hg _ _ hvs
        have hall : ((.one (.s x) :: vs : List SV).all (SV.lt nx)) = true := by
          simp only [List.all_cons, Bool.and_eq_true]; exact ⟨lr, e2⟩
        obtain ⟨⟨f1, f23⟩, _⟩ := hH f (.one (.s x) :: vs) m nx e' he' (fun p hp => hob p (List.mem_cons_of_mem _ hp)) hall
        have harr : #[x.den ρ] ++ c.args.map a.eval = ((.one (.s x) :: vs : List SV).map (SV.den ρ)).toArray := by
          apply Array.ext'
          rw [Array.toList_append, Array.toList_map, e1]; rfl
        have hrun := run_invOp (P := P) (a := a) (w := w) ho hc (v := x.den ρ) er hu hi hm hp hf
        rw [harr] at hrun
        rcases f23 with ⟨f2, f3⟩ | ⟨f2, f3, f4⟩
        · rw [f2] at hrun
          exact wp_of_enter hrun ((f3 ρ w hok.mem).mono fun en w' ⟨ρ', hr, hp⟩ => ⟨_, hr, hK ρ' w' hp f1⟩)
        · rw [f4 ρ w] at hrun
          refine wp_of_value hrun (hK ρ w ?_ f1)
          rw [f2, f3]; exact PostM.refl hok.mem
      · exact ofW (ext_all (P := P) (B := B) (ng := cx.ng) hT hok.tm hg (o := o) (by rw [ho]; exact h) hob).1 rfl rfl rfl
    · split at h
      · rename_i v L ob hv
        cases h
        exact ofW (new_all (P := P) (B := B) (ng := cx.ng) hT hok.tm hg hv hob) rfl rfl rfl
      · exact ofW (ext_all (P := P) (B := B) (ng := cx.ng) hT hok.tm hg h hob).1 rfl rfl rfl

theorem opM_kind (hT : TysOk P cx.T) (hH : HookOk P B cx.ng H) (ht : TmOk ρ t nx a) (hg : GlOk cx ρ nx) {o : Op} {e : Ef} (h : opM cx H t m nx o = some e) (hob : ∀ p ∈ e.ob, p) : KOk e m nx := by
  unfold opM at h
  split at h
  · cases h; exact ⟨rfl, rfl⟩
  · split at h
    · split at h <;> first | (cases h; done) | skip
      cases h; exact ⟨rfl, rfl⟩
    · split at h <;> first | (cases h; done) | skip
      cases h; exact trivial
    · split at h <;> first | (cases h; done) | skip
      · split at h <;> first | (cases h; done) | skip
        split at h <;> first | (cases h; done) | skip
        cases h; exact trivial
      · split at h <;> first | (cases h; done) | skip
        rename_i vs hvs
        exact (hH _ vs m nx e h hob (evList_den ht hg _ _ hvs).2).2
      · rename_i r n hc
        split at h <;> first | (cases h; done) | skip
        rename_i ty x vs hr hvs
        split at h <;> first | (cases h; done) | skip
        rename_i n' f hty
        split at h <;> first | (cases h; done) | skip
        rename_i e' he'
        cases h
        have hall : ((.one (.s x) :: vs : List SV).all (SV.lt nx)) = true := by
          simp only [List.all_cons, Bool.and_eq_true]; exact ⟨(evs_den ht hg hr).2, (evList_den ht hg _ _ hvs).2⟩
        exact (hH f (.one (.s x) :: vs) m nx e' he' (fun p hp => hob p (List.mem_cons_of_mem _ hp)) hall).2
      · exact (ext_all (P := P) (B := B) (ng := cx.ng) (ρ := ρ) (a := a) hT ht hg (o := ⟨none, _, 0, "", #[], none⟩) h hob).2
    · split at h
      · cases h; exact ⟨rfl, rfl⟩
      · exact (ext_all (P := P) (B := B) (ng := cx.ng) (ρ := ρ) (a := a) hT ht hg (o := ⟨none, _, 0, "", #[], none⟩) h hob).2

/-- a temporary put -/
theorem Ok.put {sz : Nat} {ρ' : Env} {m' : Mem} {nx' : Nat} {w' : World} (hok : Ok B cx sz ρ t m nx a w) (hp : PostM B cx.ng ρ m nx w ρ' m' nx' w') {v : SV} (hv : v.lt nx' = true) {d : Nat} (hd : d < sz) :
    Ok B cx sz ρ' ((d, v) :: t) m' nx' (a.put (some d) (v.den ρ')) w' := by
  refine ⟨⟨fun i u hu => ?_, fun i u hu => ?_⟩, by simp [Act.put, hok.size], hp.ok, hok.noDefer⟩
  · rw [find_cons] at hu
    simp only [Act.put]
    by_cases hi : d = i
    · subst hi
      rw [if_pos rfl] at hu
      cases hu
      have : d < a.tmps.size := by rw [hok.size]; exact hd
      simp [Array.getD, this]
    · rw [if_neg hi] at hu
      have h1 := hok.tm.val i u hu
      have h2 : (a.tmps.setIfInBounds d (v.den ρ')).getD i undef = a.tmps.getD i undef := by
        simp only [Array.getD_eq_getD_getElem?, Array.getElem?_setIfInBounds_ne hi]
      rw [h2, h1]
      exact (SV.den_congr hp.ext (hok.tm.wf i u hu)).symm
  · rw [find_cons] at hu
    by_cases hi : d = i
    · rw [if_pos hi] at hu; cases hu; exact hv
    · rw [if_neg hi] at hu; exact SV.lt_mono hp.le (hok.tm.wf i u hu)

theorem Ok.post {sz : Nat} {ρ' : Env} {m' : Mem} {nx' : Nat} {w' : World} (hok : Ok B cx sz ρ t m nx a w) (hp : PostM B cx.ng ρ m nx w ρ' m' nx' w') : Ok B cx sz ρ' t m' nx' a w' :=
  ⟨⟨fun i u hu => by rw [hok.tm.val i u hu]; exact (SV.den_congr hp.ext (hok.tm.wf i u hu)).symm, fun i u hu => SV.lt_mono hp.le (hok.tm.wf i u hu)⟩, hok.size, hp.ok, hok.noDefer⟩

end

/-! ### Rows of operations in the text's order -/

structure St where
  t : TM
  m : Mem
  nx : Nat

/-- which way conditions go that are not decided: by the temporary that holds them, and by what the others hold -/
abbrev Orc := TM → Nat → Option Bool
def orcL (l : List (Nat × Bool)) : Orc := fun _ d => find l d
def noOrc : Orc := fun _ _ => none

def wantX (orc : Orc) (t : TM) (ops : List Oper) (o : Oper) : Option (Bool × List Prop) :=
  match o.guard with
  | none => some (true, [])
  | some (j, want) => match ops[j]? with
    | some oj => match oj.dst with
      | some d => match find t d with
        | some (.one (.s (.b x))) => match orc t d with
          | some b => some ((b == want), [x = b])
          | none => match x with
            | true => some (want, [])
            | false => some (!want, [])
        | _ => none
      | none => none
    | none => none

def putT (sz : Nat) (t : TM) (dst : Option Nat) (v : SV) : Option TM :=
  match dst with
  | some d => bif Nat.blt d sz then some ((d, v) :: t) else none
  | none => some t

def runL (cx : Cx) (H : Hook) (sz : Nat) (orc : Orc) (ops : List Oper) : List Oper → St → Option (St × List Prop)
  | [], s => some (s, [])
  | o :: r, s => match wantX orc s.t ops o with
    | some (true, ob0) => match opM cx H s.t s.m s.nx o.op with
      | some e => match putT sz s.t o.dst e.v with
        | some t' => match runL cx H sz orc ops r ⟨t', e.m, e.nx⟩ with
          | some (s', ob) => some (s', ob0 ++ (e.ob ++ ob))
          | none => none
        | none => none
      | none => none
    | some (false, ob0) => match putT sz s.t o.dst undefS with
      | some t' => match runL cx H sz orc ops r ⟨t', s.m, s.nx⟩ with
        | some (s', ob) => some (s', ob0 ++ ob)
        | none => none
      | none => none
    | none => none

section
variable {P : Program} {cx : Cx} {H : Hook} {B : Nat} {sz : Nat}

theorem wantX_tm {orc : Orc} {ρ : Env} {t : TM} {nx : Nat} {a : Act} (htm : TmOk ρ t nx a) {ops : List Oper} {o : Oper} {b : Bool} {ob : List Prop}
    (h : wantX orc t ops o = some (b, ob)) (hob : ∀ p ∈ ob, p) : Region.wanted o (yielded ops.toArray a.tmps) = b := by
  unfold wantX at h
  unfold Region.wanted
  split at h
  · rename_i hg
    cases h
    rw [hg]
  · rename_i j want hg
    rw [hg]
    split at h <;> first | (cases h; done) | skip
    rename_i oj hj
    split at h <;> first | (cases h; done) | skip
    rename_i d hd
    split at h <;> first | (cases h; done) | skip
    rename_i x hx
    have hval := htm.val d _ hx
    have hdlt : d < a.tmps.size := by
      rcases Nat.lt_or_ge d a.tmps.size with h1 | h1
      · exact h1
      · rw [Array.getD, dif_neg (by omega)] at hval
        cases hval
    have hy : yielded ops.toArray a.tmps j = some x := by
      have h1 : a.tmps[d]? = some (.bool x) := by
        rw [Array.getElem?_eq_getElem hdlt]
        simp only [Array.getD, hdlt, dif_pos] at hval
        rw [show a.tmps[d] = Value.bool x from hval]
      simp [yielded, hj, hd, h1]
    show (yielded ops.toArray a.tmps j == some want) = b
    rw [hy]
    split at h
    · rename_i b' hb'
      cases h
      have : x = b' := hob _ (by simp)
      rw [this]; cases b' <;> cases want <;> rfl
    · split at h
      · cases h; cases b <;> rfl
      · cases h; cases want <;> rfl

theorem wantX_spec {orc : Orc} {ρ : Env} {t : TM} {m : Mem} {nx : Nat} {a : Act} {w : World} (hok : Ok B cx sz ρ t m nx a w) {ops : List Oper} {o : Oper} {b : Bool} {ob : List Prop}
    (h : wantX orc t ops o = some (b, ob)) (hob : ∀ p ∈ ob, p) : Region.wanted o (yielded ops.toArray a.tmps) = b := wantX_tm hok.tm h hob

/-- what lies behind: the state, after some exit -/
def Ends (B : Nat) (cx : Cx) (sz : Nat) (ρ : Env) (m : Mem) (nx : Nat) (w : World) (s : St) (a' : Act) (w' : World) : Prop :=
  ∃ ρ', Ok B cx sz ρ' s.t s.m s.nx a' w' ∧ PostM B cx.ng ρ m nx w ρ' s.m s.nx w'

theorem putT_spec {t t' : TM} {dst : Option Nat} {v : SV} {ρ ρ' : Env} {m m' : Mem} {nx nx' : Nat} {a : Act} {w w' : World} (hok : Ok B cx sz ρ t m nx a w) (hp : PostM B cx.ng ρ m nx w ρ' m' nx' w') (hv : v.lt nx' = true)
    (h : putT sz t dst v = some t') : Ok B cx sz ρ' t' m' nx' (a.put dst (v.den ρ')) w' := by
  cases dst with
  | none => simp only [putT, Option.some.injEq] at h; subst h; exact hok.post hp
  | some d =>
    simp only [putT] at h
    cases hb : Nat.blt d sz with
    | false => rw [hb] at h; cases h
    | true => rw [hb, cond_true] at h; cases h; exact hok.put hp hv (blt_iff.1 hb)

/-- **A ROW OF OPERATIONS, IN THE TEXT's ORDER.** -/
theorem runL_wp (hT : TysOk P cx.T) (hH : HookOk P B cx.ng H) {orc : Orc} {ops : List Oper} {Q : Exit → Act → World → Prop} :
    ∀ (l : List Oper) (s s' : St) (ob : List Prop) (ρ : Env) (a : Act) (w : World), runL cx H sz orc ops l s = some (s', ob) → (∀ p ∈ ob, p) → Ok B cx sz ρ s.t s.m s.nx a w →
      (∀ a' w', Ends B cx sz ρ s.m s.nx w s' a' w' → Q .normal a' w') → wpList P ops.toArray Q l a w
  | [], s, s', ob, ρ, a, w, h, hob, hok, hQ => by
    cases h
    exact hQ a w ⟨ρ, hok, PostM.refl hok.mem⟩
  | o :: l, s, s', ob, ρ, a, w, h, hob, hok, hQ => by
    simp only [runL] at h
    split at h <;> first | (cases h; done) | skip
    · rename_i ob0 hw
      split at h <;> first | (cases h; done) | skip
      rename_i e he
      split at h <;> first | (cases h; done) | skip
      rename_i t' ht'
      split at h <;> first | (cases h; done) | skip
      rename_i s2 ob2 h2
      cases h
      have hwant := wantX_spec hok hw (fun p hp => hob p (by simp [hp]))
      unfold wpList
      rw [hwant, if_pos rfl]
      left
      refine opM_wp hT hH hok he (fun p hp => hob p (by simp [hp])) fun ρ' w' hp hv => ?_
      have hok' := putT_spec hok hp hv ht'
      refine runL_wp hT hH l _ _ _ ρ' _ w' h2 (fun p hp => hob p (by simp [hp])) hok' fun a' w'' ⟨ρ'', hok'', hp''⟩ => hQ a' w'' ⟨ρ'', hok'', hp.trans hp''⟩
    · rename_i ob0 hw
      split at h <;> first | (cases h; done) | skip
      rename_i t' ht'
      split at h <;> first | (cases h; done) | skip
      rename_i s2 ob2 h2
      cases h
      have hwant := wantX_spec hok hw (fun p hp => hob p (by simp [hp]))
      unfold wpList
      rw [hwant, if_neg (by simp)]
      have hok' := putT_spec (v := undefS) hok (PostM.refl hok.mem) rfl ht'
      exact runL_wp hT hH l _ _ _ ρ _ w h2 (fun p hp => hob p (by simp [hp])) hok' hQ

end
end Go.Sx

set_option linter.unusedVariables false
namespace Go.Sx
open Go.RowKit

def Sc.on (p : Nat → Bool) : Sc → Bool
  | .p k _ => p k
  | .sl k _ _ _ => p k
  | .osl k _ => p k
  | .f _ x => x.on p
  | .mv _ x => x.on p
  | _ => true

def SegD.on (p : Nat → Bool) : SegD → Bool
  | .dc l => l.all (Sc.on p)
  | _ => true

def SV0.on (p : Nat → Bool) : SV0 → Bool
  | .s x => x.on p
  | .ag l => l.all (SegD.on p)

def SV.on (p : Nat → Bool) : SV → Bool
  | .one x => x.on p
  | .tup l => l.all (SV0.on p)

section
variable {p q : Nat → Bool} {ρ ρ' : Env}

theorem Sc.on_congr (h : ∀ k, p k = true → ρ' k = ρ k) : ∀ {x : Sc}, x.on p = true → x.den ρ' = x.den ρ
  | .b _, _ | .i _, _ | .u8 _, _ | .u32 _, _ | .u64 _, _ | .p0, _ | .sl0, _ | .str _, _ | .f0, _ | .v _, _ => rfl
  | .p k _, hx => by simp only [Sc.den]; rw [h k hx]
  | .sl k _ _ _, hx => by simp only [Sc.den]; rw [h k hx]
  | .osl k _, hx => by simp only [Sc.den]; rw [h k hx]
  | .f _ x, hx => by simp only [Sc.den]; rw [Sc.on_congr h (x := x) hx]
  | .mv _ x, hx => by simp only [Sc.den]; rw [Sc.on_congr h (x := x) hx]

theorem Sc.on_mono (h : ∀ k, p k = true → q k = true) : ∀ {x : Sc}, x.on p = true → x.on q = true
  | .b _, _ | .i _, _ | .u8 _, _ | .u32 _, _ | .u64 _, _ | .p0, _ | .sl0, _ | .str _, _ | .f0, _ | .v _, _ => rfl
  | .p k _, hx => h k hx
  | .sl k _ _ _, hx => h k hx
  | .osl k _, hx => h k hx
  | .f _ x, hx => Sc.on_mono h (x := x) hx
  | .mv _ x, hx => Sc.on_mono h (x := x) hx

theorem Sc.lt_on {n : Nat} (h : ∀ k, k < n → p k = true) : ∀ {x : Sc}, x.lt n = true → x.on p = true
  | .b _, _ | .i _, _ | .u8 _, _ | .u32 _, _ | .u64 _, _ | .p0, _ | .sl0, _ | .str _, _ | .f0, _ | .v _, _ => rfl
  | .p k _, hx => h k (blt_iff.1 hx)
  | .sl k _ _ _, hx => h k (blt_iff.1 hx)
  | .osl k _, hx => h k (blt_iff.1 hx)
  | .f _ x, hx => Sc.lt_on h (x := x) hx
  | .mv _ x, hx => Sc.lt_on h (x := x) hx

theorem SegD.on_scs {d : SegD} (h : d.on p = true) : ∀ x ∈ d.scs, x.on p = true := by
  intro x hx
  cases d <;> simp only [SegD.scs, List.mem_map] at hx
  case dc l => exact List.all_eq_true.1 h x hx
  all_goals (obtain ⟨y, _, rfl⟩ := hx; rfl)

theorem SegD.on_mono (h : ∀ k, p k = true → q k = true) {d : SegD} (hd : d.on p = true) : d.on q = true := by
  cases d <;> try rfl
  exact List.all_eq_true.2 fun x hx => Sc.on_mono h (List.all_eq_true.1 hd x hx)

theorem SegD.lt_on {n : Nat} (h : ∀ k, k < n → p k = true) {d : SegD} (hd : d.lt n = true) : d.on p = true := by
  cases d <;> try rfl
  exact List.all_eq_true.2 fun x hx => Sc.lt_on h (List.all_eq_true.1 hd x hx)

theorem SV0.on_mono (h : ∀ k, p k = true → q k = true) {v : SV0} (hv : v.on p = true) : v.on q = true := by
  cases v with
  | s x => exact Sc.on_mono h (x := x) hv
  | ag l => exact List.all_eq_true.2 fun x hx => SegD.on_mono h (List.all_eq_true.1 hv x hx)

theorem SV.on_mono (h : ∀ k, p k = true → q k = true) {v : SV} (hv : v.on p = true) : v.on q = true := by
  cases v with
  | one x => exact SV0.on_mono h (v := x) hv
  | tup l => exact List.all_eq_true.2 fun x hx => SV0.on_mono h (List.all_eq_true.1 hv x hx)

theorem SV0.lt_on {n : Nat} (h : ∀ k, k < n → p k = true) {v : SV0} (hv : v.lt n = true) : v.on p = true := by
  cases v with
  | s x => exact Sc.lt_on h (x := x) hv
  | ag l => exact List.all_eq_true.2 fun x hx => SegD.lt_on h (List.all_eq_true.1 hv x hx)

theorem SV.lt_on {n : Nat} (h : ∀ k, k < n → p k = true) {v : SV} (hv : v.lt n = true) : v.on p = true := by
  cases v with
  | one x => exact SV0.lt_on h (v := x) hv
  | tup l => exact List.all_eq_true.2 fun x hx => SV0.lt_on h (List.all_eq_true.1 hv x hx)

theorem SegD.on_congr (h : ∀ k, p k = true → ρ' k = ρ k) {d : SegD} (hd : d.on p = true) : d.cells ρ' = d.cells ρ := by
  unfold SegD.cells
  exact List.map_congr_left fun x hx => Sc.on_congr h (SegD.on_scs hd x hx)

theorem SV0.on_congr (h : ∀ k, p k = true → ρ' k = ρ k) {v : SV0} (hv : v.on p = true) : v.den ρ' = v.den ρ := by
  cases v with
  | s x => exact Sc.on_congr h hv
  | ag l =>
    simp only [SV0.den]
    congr 2
    have : l.map (SegD.cells ρ') = l.map (SegD.cells ρ) := List.map_congr_left fun d hd => SegD.on_congr h (List.all_eq_true.1 hv d hd)
    simp only [List.flatMap, this]

theorem SV.on_congr (h : ∀ k, p k = true → ρ' k = ρ k) {v : SV} (hv : v.on p = true) : v.den ρ' = v.den ρ := by
  cases v with
  | one x => exact SV0.on_congr h hv
  | tup l =>
    simp only [SV.den]
    congr 2
    exact List.map_congr_left fun x hx => SV0.on_congr h (List.all_eq_true.1 hv x hx)

theorem SegOk.on {B k : Nat} {s : Seg} {w : World} (h : SegOk B ρ k s w) (he : ∀ k, p k = true → ρ' k = ρ k) (hk : p k = true) (hd : s.d.on p = true) (hn : s.nxt = true → p (k + 1) = true) : SegOk B ρ' k s w := by
  have e := he k hk
  refine ⟨fun a hp => by rw [Seg.ext0 e] at hp; rw [e]; exact h.ours a hp, h.fixed, by rw [e]; exact h.cap, by rw [e]; exact h.nil, fun j x hx => ?_, fun a j hj => ?_, fun a => ?_, fun hg ho j z hz h1 h2 => by rw [e] at h2 ⊢; exact h.zero hg ho j z hz h1 h2⟩
  · rw [e, h.cell j x hx, Sc.on_congr he (SegD.on_scs hd x (List.mem_of_getElem? hx))]
  · have : j < s.ext ρ k := by unfold Seg.ext at *; rw [e] at hj; exact hj
    rw [e]; exact h.room a j this
  · rw [e, he _ (hn a)]; exact h.next a

/-- **A RUN OVER A PART IS A RUN OVER THE WHOLE.** -/
theorem PostM.lay {B ng : Nat} {ρ0 ρ'' : Env} {m0 M m m' M' : Mem} {nx0 NX nx nx' : Nat} {w0 w w' : World} (h : PostM B ng ρ0 m0 nx0 w0 ρ M NX w) (hs : ∀ k s, find m k = some s → find M k = some s)
    (hp : PostM B ng ρ m nx w ρ' m' nx' w') (hN : nx' ≤ NX) (e1 : ∀ k, k < nx' → ρ'' k = ρ' k) (e2 : ∀ k, p k = true → ρ'' k = ρ k) (h0 : ∀ k, k < nx0 → p k = true) (hng : ng ≤ nx0)
    (hlive : ∀ k s, find M k = some s → p k = true ∧ s.d.on p = true ∧ (s.nxt = true → p (k + 1) = true))
    (hM' : ∀ k, find M' k = match find m' k with
      | some s => some s
      | none => match find m k with
        | some _ => none
        | none => find M k) : PostM B ng ρ0 m0 nx0 w0 ρ'' M' NX w' := by
  have inM' : ∀ k s, find m' k = some s → find M' k = some s := fun k s hk => by rw [hM' k, hk]
  have split : ∀ k s, find M' k = some s → find m' k = some s ∨ (find m' k = none ∧ find m k = none ∧ find M k = some s) := fun k s hk => by
    rw [hM' k] at hk
    split at hk
    · rename_i v hv; cases hk; exact .inl hv
    · rename_i hv
      split at hk
      · cases hk
      · rename_i hv2; exact .inr ⟨hv, hv2, hk⟩
  have small : MemOk B ng ρ'' m' nx' w' := hp.ok.env e1 (Nat.le_refl _)
  have subO : ∀ b o, b < w.heap.size → Owns ρ'' m' b o → Owns ρ m b o := fun b o hb ho => hp.sub b o hb (ho.env e1 hp.ok.keys)
  have subR : ∀ b o, b < w.heap.size → Reaches ρ'' m' b o → Reaches ρ m b o := fun b o hb ho => by
    obtain ⟨k, s, hk, r1, r2, r3⟩ := ho
    have e := e1 k (hp.ok.keys k s hk)
    rw [e] at r1 r2 r3
    rw [Seg.reach_congr e] at r3
    exact hp.subR b o hb ⟨k, s, hk, r1, r2, r3⟩
  -- a reached cell of the rest is none of m's own
  have notOwn : ∀ k s, find m k = none → find M k = some s → ∀ j, j < s.reach ρ k → ¬ Owns ρ m (ρ k).blk ((ρ k).off + j) := by
    rintro k s hn hk j hj ⟨k2, s2, hk2, o2, b2, l2, u2⟩
    have hne : k ≠ k2 := fun e => by subst e; rw [hn] at hk2; cases hk2
    rcases h.ok.dis k k2 s s2 hk (hs k2 s2 hk2) hne (.inr o2) with hx | hx
    · exact hx b2.symm
    · exact hx j ((ρ k).off + j - (ρ k2).off) hj (by simp only [Seg.reach, o2, if_true]; omega) (by omega)
  have ek : ∀ k s, find M k = some s → ρ'' k = ρ k := fun k s hk => e2 k (hlive k s hk).1
  have segR : ∀ k s, find m k = none → find M k = some s → SegOk B ρ'' k s w' := by
    intro k s hn hk
    have h1 := h.ok.segs k s hk
    have h2 : SegOk B ρ k s w' := h1.congr fun j hj => hp.frame.cell _ _ (h1.lt hj) (notOwn k s hn hk j hj)
    obtain ⟨l1, l2, l3⟩ := hlive k s hk
    exact h2.on e2 l1 l2 l3
  have mixed : ∀ k s k' s', find m' k = some s → find m k' = none → find m' k' = none → find M k' = some s' → (s.own = true ∨ s'.own = true) → (ρ'' k).blk ≠ (ρ'' k').blk ∨ ∀ j j', j < s.reach ρ'' k → j' < s'.reach ρ'' k' → (ρ'' k).off + j ≠ (ρ'' k').off + j' := by
    intro k s k' s' hk hn hn' hk' ho
    by_cases hb : (ρ'' k).blk = (ρ'' k').blk
    · refine .inr fun j j' hj hj' heq => ?_
      have e := ek k' s' hk'
      have hj'' : j' < s'.reach ρ k' := by rw [← Seg.reach_congr e]; exact hj'
      have hlt0 : (ρ k').blk < w.heap.size := (h.ok.segs k' s' hk').lt hj''
      have pos : (ρ'' k).off + j = (ρ k').off + j' := by rw [heq, e]
      have pb : (ρ'' k).blk = (ρ k').blk := by rw [hb, e]
      rcases ho with ho | ho
      · have hr : s.reach ρ'' k = s.ext ρ'' k := by simp [Seg.reach, ho]
        have : Owns ρ'' m' (ρ k').blk ((ρ k').off + j') := ⟨k, s, hk, ho, pb, by omega, by omega⟩
        exact notOwn k' s' hn hk' j' hj'' (subO _ _ hlt0 this)
      · have : Reaches ρ'' m' (ρ k').blk ((ρ k').off + j') := ⟨k, s, hk, pb, by omega, by omega⟩
        obtain ⟨k2, s2, hk2, b2, l2, u2⟩ := subR _ _ hlt0 this
        have hne : k2 ≠ k' := fun e => by subst e; rw [hn] at hk2; cases hk2
        rcases h.ok.dis k2 k' s2 s' (hs k2 s2 hk2) hk' hne (.inr ho) with hx | hx
        · exact hx b2
        · exact hx ((ρ k').off + j' - (ρ k2).off) j' (by omega) hj'' (by omega)
    · exact .inl hb
  have sz0 : w0.heap.size ≤ w.heap.size := h.frame.below.size
  -- what the step owns of an old block, the whole owned
  have up : ∀ b o, Owns ρ m b o → Owns ρ M b o := fun b o ⟨k, s, hk, r⟩ => ⟨k, s, hs k s hk, r⟩
  refine ⟨fun k hk => (e2 k (h0 k hk)).trans (h.ext k hk), ⟨fun k s hk => ?_, fun k s hk => ?_, fun k k' s s' hk hk' hne ho => ?_, small.base, small.glob, Nat.le_trans small.ng_le hN, fun k s hk => ?_⟩, ⟨h.frame.below.trans hp.frame.below, fun b o hb hn => ?_⟩, ?_, ?_, h.le⟩
  · rcases split k s hk with h1 | ⟨_, _, h1⟩
    · exact Nat.lt_of_lt_of_le (small.keys k s h1) hN
    · exact h.ok.keys k s h1
  · rcases split k s hk with h1 | ⟨_, h2, h1⟩
    · exact small.segs k s h1
    · exact segR k s h2 h1
  · rcases split k s hk with h1 | ⟨n1', n1, h1⟩ <;> rcases split k' s' hk' with h2 | ⟨n2', n2, h2⟩
    · exact small.dis k k' s s' h1 h2 hne ho
    · exact mixed k s k' s' h1 n2 n2' h2 ho
    · rcases mixed k' s' k s h2 n1 n1' h1 ho.symm with hx | hx
      · exact .inl (Ne.symm hx)
      · exact .inr fun j j' hj hj' e => hx j' j hj' hj e.symm
    · have hx := h.ok.dis k k' s s' h1 h2 hne ho
      unfold Apart at *
      rw [ek k s h1, ek k' s' h2, Seg.reach_congr (ek k s h1), Seg.reach_congr (ek k' s' h2)]
      exact hx
  · rcases split k s hk with h1 | ⟨_, _, h1⟩
    · obtain ⟨a1, a2⟩ := small.wf k s h1
      exact ⟨SegD.lt_mono hN a1, fun c => Nat.lt_of_lt_of_le (a2 c) hN⟩
    · exact h.ok.wf k s h1
  · have hn1 : ¬ Owns ρ M b o := fun ho => hn (h.sub b o hb ho)
    have a1 := h.frame.cell b o hb hn
    have a2 := hp.frame.cell b o (Nat.lt_of_lt_of_le hb sz0) fun ho => hn1 (up b o ho)
    exact ⟨a2.1.trans a1.1, a2.2.trans a1.2⟩
  · rintro b o hb ⟨k, s, hk, r1, r2, r3, r4⟩
    rcases split k s hk with h1 | ⟨_, _, h1⟩
    · exact h.sub b o hb (up b o (subO b o (Nat.lt_of_lt_of_le hb sz0) ⟨k, s, h1, r1, r2, r3, r4⟩))
    · have e := ek k s h1
      rw [Seg.ext_congr e] at r4
      rw [e] at r2 r3 r4
      exact h.sub b o hb ⟨k, s, h1, r1, r2, r3, r4⟩
  · rintro b o hb ⟨k, s, hk, r2, r3, r4⟩
    rcases split k s hk with h1 | ⟨_, _, h1⟩
    · obtain ⟨k2, s2, q1, q2⟩ := subR b o (Nat.lt_of_lt_of_le hb sz0) ⟨k, s, h1, r2, r3, r4⟩
      exact h.subR b o hb ⟨k2, s2, hs k2 s2 q1, q2⟩
    · have e := ek k s h1
      rw [Seg.reach_congr e] at r4
      rw [e] at r2 r3 r4
      exact h.subR b o hb ⟨k, s, h1, r2, r3, r4⟩

end
end Go.Sx
