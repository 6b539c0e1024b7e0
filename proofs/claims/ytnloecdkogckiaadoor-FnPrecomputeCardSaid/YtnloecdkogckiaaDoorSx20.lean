/- A function's contract from its body. Conditions: none; plain definitions and theorems over any program. -/
import Derived.Test.YtnloecdkogckiaaDoorSx19
set_option linter.unusedVariables false
namespace Go.Sx
open Go.RowKit

section
variable {P : Program} {H : Hook} {B : Nat} {cx : Cx} {sz lim : Nat} {orc : Orc} {R R' : Ex → St → Prop} {s s' : St} {l : List Code}

def enum : Nat → List SV → TM
  | _, [] => []
  | i, v :: r => (i, v) :: enum (i + 1) r

theorem enum_spec : ∀ (l : List SV) (i d : Nat) (v : SV), find (enum i l) d = some v → i ≤ d ∧ l[d - i]? = some v
  | [], i, d, v, h => by cases h
  | u :: r, i, d, v, h => by
    simp only [enum] at h
    rw [find_cons] at h
    by_cases e : i = d
    · rw [if_pos e] at h; cases h; subst e; exact ⟨Nat.le_refl _, by simp⟩
    · rw [if_neg e] at h
      obtain ⟨a, b⟩ := enum_spec r (i + 1) d v h
      refine ⟨by omega, ?_⟩
      rw [show d - i = (d - (i + 1)) + 1 by omega, List.getElem?_cons_succ]
      exact b

/-- one result -/
def resOne (cx : Cx) (t : TM) (m : Mem) : ResultVar → Option (SV × List Prop)
  | .tmp d => match find t d with
    | some v => some (v, [])
    | none => none
  | .cell d ty => loadM cx t m ty (.tmp d)

def resMany (cx : Cx) (t : TM) (m : Mem) : List ResultVar → Option (List SV0 × List Prop)
  | [] => some ([], [])
  | x :: r => match resOne cx t m x, resMany cx t m r with
    | some (.one v, ob), some (vs, ob') => some (v :: vs, ob ++ ob')
    | _, _ => none

def resX (cx : Cx) (t : TM) (m : Mem) : List ResultVar → Option (SV × List Prop)
  | [x] => resOne cx t m x
  | l => match resMany cx t m l with
    | some (vs, ob) => some (.tup vs, ob)
    | none => none

def resRun (x : ResultVar) (tmps : Array Value) : Sem Value := match x with
  | .tmp t => pure (tmps.getD t undef)
  | .cell a t => do loadVar t (← asAddr (tmps.getD a undef))

theorem results_eq (fn : Func) (tmps : Array Value) : results fn tmps = (do
    let vs ← fn.results.mapM fun x => resRun x tmps
    pure (if h : vs.size = 1 then vs[0] else .tuple vs)) := by
  unfold results
  congr 1

theorem resOne_run (hT : TysOk P cx.T) {ρ : Env} {t : TM} {m : Mem} {nx : Nat} {a : Act} {w : World} (hok : Ok B cx sz ρ t m nx a w) {x : ResultVar} {v : SV} {ob : List Prop} (h : resOne cx t m x = some (v, ob)) (hob : ∀ p ∈ ob, p) :
    (resRun x a.tmps).run P w = .ok (v.den ρ) w ∧ v.lt nx = true := by
  cases x with
  | tmp d =>
    simp only [resOne] at h
    split at h <;> first | (cases h; done) | skip
    rename_i v' hv
    cases h
    exact ⟨by simp [resRun, hok.tm.val d v hv], hok.tm.wf d v hv⟩
  | cell d ty =>
    simp only [resOne] at h
    obtain ⟨k1, k2⟩ := load_reads (P := P) (B := B) (ng := cx.ng) hT hok.tm hok.mem.gl (fun k s hk => (hok.mem.wf k s hk).1) (o := ⟨none, .load ty (.tmp d), ty, "", #[], none⟩) rfl h hob
    refine ⟨?_, k1⟩
    have hx := k2 w hok.mem
    -- the address
    have : ∃ k o, evs cx t (.tmp d) = some (.p k o) := by
      unfold loadM at h
      split at h <;> first | (cases h; done) | skip
      rename_i ti k o _ he
      exact ⟨k, o, he⟩
    obtain ⟨k, o, he⟩ := this
    have e := (evs_den hok.tm hok.mem.gl he).1
    simp only [execOp, e, Sc.den, Instr.loadAt, Instr.sureAddr] at hx
    have e' : a.tmps.getD d undef = .pointer (some ⟨(ρ k).blk, (ρ k).off + o, none⟩) := e
    simp only [resRun, e']
    cases hr : (loadVar ty ⟨(ρ k).blk, (ρ k).off + o, none⟩).run P w with
    | ok u w' =>
      simp [hr] at hx
      simp [asAddr, hr, hx]
    | halt u w' =>
      simp [hr] at hx

theorem resMany_run (hT : TysOk P cx.T) {ρ : Env} {t : TM} {m : Mem} {nx : Nat} {a : Act} {w : World} (hok : Ok B cx sz ρ t m nx a w) : ∀ {l : List ResultVar} {vs : List SV0} {ob : List Prop}, resMany cx t m l = some (vs, ob) → (∀ p ∈ ob, p) →
    (l.mapM fun x => resRun x a.tmps).run P w = .ok (vs.map (SV0.den ρ)) w ∧ vs.all (SV0.lt nx) = true
  | [], vs, ob, h, hob => by cases h; exact ⟨by simp, rfl⟩
  | x :: r, vs, ob, h, hob => by
    simp only [resMany] at h
    split at h <;> first | (cases h; done) | skip
    rename_i v ob1 vs' ob2 h1 h2
    cases h
    obtain ⟨r1, l1⟩ := resOne_run hT hok h1 (fun p hp => hob p (by simp [hp]))
    obtain ⟨r2, l2⟩ := resMany_run hT hok h2 (fun p hp => hob p (by simp [hp]))
    have r1' : (resRun x a.tmps).run P w = .ok (v.den ρ) w := r1
    have l1' : v.lt nx = true := l1
    refine ⟨?_, by simp [l1', l2]⟩
    rw [List.mapM_cons]
    simp [r1', r2]

theorem resX_run (hT : TysOk P cx.T) {ρ : Env} {t : TM} {m : Mem} {nx : Nat} {a : Act} {w : World} (hok : Ok B cx sz ρ t m nx a w) {fn : Func} {v : SV} {ob : List Prop} (h : resX cx t m fn.results.toList = some (v, ob)) (hob : ∀ p ∈ ob, p) :
    (results fn a.tmps).run P w = .ok (v.den ρ) w ∧ v.lt nx = true := by
  rw [results_eq]
  have harr : (fn.results.mapM fun x => resRun x a.tmps) = (List.toArray <$> fn.results.toList.mapM fun x => resRun x a.tmps) := by
    rw [Array.mapM_eq_mapM_toList]
  rw [harr]
  unfold resX at h
  split at h
  · rename_i x hx
    rw [hx]
    obtain ⟨r1, l1⟩ := resOne_run hT hok h hob
    refine ⟨?_, l1⟩
    simp [r1]
  · rename_i hne
    split at h <;> first | (cases h; done) | skip
    rename_i vs ob' hm
    cases h
    obtain ⟨r1, l1⟩ := resMany_run hT hok hm hob
    refine ⟨?_, l1⟩
    have hlen : vs.length = fn.results.toList.length := by
      clear r1 l1 hob hne harr
      generalize fn.results.toList = l at hm
      induction l generalizing vs ob with
      | nil => cases hm; rfl
      | cons x r ih =>
        simp only [resMany] at hm
        split at hm <;> first | (cases hm; done) | skip
        rename_i v ob1 vs' ob2 h1 h2
        cases hm
        simp [ih _ h2]
    have hne1 : (vs.map (SV0.den ρ)).length ≠ 1 := by
      rw [List.length_map, hlen]
      intro h1
      obtain ⟨x, hx⟩ := List.length_eq_one_iff.1 h1
      exact hne x hx
    simp [r1]
    have hne1' : ¬ vs.length = 1 := by simpa using hne1
    simp [hne1', SV.den]

/-- a function's end: its value and what is left of the memory -/
def endsAs (cx : Cx) (rs : List ResultVar) (ks : List Nat) (nx : Nat) (s : St) : Option (SV × Mem × List Prop) :=
  match resX cx s.t s.m rs, cut [] ks nx s with
  | some (v, ob), some s' => bif v.lt nx then some (v, s'.m, ob) else none
  | _, _ => none

/-- **A FUNCTION, FROM ITS BODY.** -/
theorem FnE.of_tri (hT : TysOk P cx.T) {f : FuncId} {fn : Func} {c : Code} (hf : P.funcs[f]? = some fn) (hb : fn.body = some c) (hn : (fn.name == "runtime.NumGoroutine") = false) (hsz : fn.ntmps = sz) {args : List SV} (hlen : args.length ≤ sz) {m : Mem} {nx : Nat} {e : Ef} (hlt : args.all (SV.lt nx) = true) (hle : nx ≤ e.nx)
    (ht : Tri P B cx sz nx (flat c) ⟨enum 0 args, m, nx⟩ fun ex s' => (match ex with
      | .x _ => False
      | _ => True) ∧ ∃ ks ob, endsAs cx fn.results.toList ks e.nx s' = some (e.v, e.m, ob) ∧ ∀ p ∈ ob, p) : FnE P B cx.ng f args m nx e := by
  refine ⟨fun args w => ?_, fun ρ w hm => ?_⟩
  · simp only [beq_eq_false_iff_ne, ne_eq] at hn
    simp [callFunc, hf, hn, hb]
  · refine calls_of_wp hf hb (Code.wp_mono (fun ex a' w' hfin => ?_) (flat_wp c _ _ w (ht hm.ng_le (Nat.le_refl _) ρ _ w ⟨⟨fun d v hd => ?_, fun d v hd => ?_⟩, ?_, hm, rfl⟩)))
    · obtain ⟨ex', s', he, ⟨h1, ks, ob, h2, hob⟩, ρ', hok', hp'⟩ := hfin
      unfold endsAs at h2
      split at h2 <;> first | (cases h2; done) | skip
      rename_i v ob' s2 hres hcut
      cases hbv : v.lt e.nx with
      | false => rw [hbv] at h2; cases h2
      | true =>
        rw [hbv, cond_true] at h2
        simp only [Option.some.injEq, Prod.mk.injEq] at h2
        obtain ⟨e1, e2, e3⟩ := h2
        subst e3
        obtain ⟨r1, r2⟩ := resX_run hT hok' hres hob
        have hcut' := hok'.cut hp' hcut hle hm.ng_le
        have hnx : s2.nx = e.nx := (cut_spec hcut).1
        have hfin : bodyPost P fn (fun en w' => ∃ ρ', en = .returned (e.v.den ρ') ∧ PostM B cx.ng ρ m nx w ρ' e.m e.nx w') .ret a' w' := by
          refine ⟨hok'.noDefer, _, r1, ρ', by rw [e1], ?_⟩
          rw [← e2, ← hnx]; exact hcut'.2
        subst he
        cases ex' with
        | n => exact hfin
        | x i => exact h1.elim
        | r => exact hfin
    · obtain ⟨_, hd2⟩ := enum_spec args 0 d v hd
      rw [Nat.sub_zero] at hd2
      have hlt' : d < args.length := (List.getElem?_eq_some_iff.1 hd2).1
      have hget : args[d] = v := (List.getElem?_eq_some_iff.1 hd2).2
      simp [Array.getD_eq_getD_getElem?, Array.getElem?_append, hlt', hget]
    · obtain ⟨_, hd2⟩ := enum_spec args 0 d v hd
      rw [Nat.sub_zero] at hd2
      exact List.all_eq_true.1 hlt v (List.mem_of_getElem? hd2)
    · simp; omega

end
end Go.Sx
