/- Steps of a walk in one equation each. Conditions: none; plain definitions and theorems over any program. -/
import Derived.Test.YtnloecdkogckiaaDoorSx32
import Derived.KernelRfl
set_option linter.unusedVariables false
namespace Go.Sx
open Go.RowKit

/-- run, and cut down -/
def runC (cx : Cx) (H : Hook) (sz lim : Nat) (orc : Orc) (ts ks : List Nat) (nx : Nat) (l : List Code) (s : St) : Option (Ex × St × List Prop) :=
  match execL cx H sz lim orc l s with
  | some (ex, s1, ob) => match cut ts ks nx s1 with
    | some s' => some (ex, s', ob)
    | none => none
  | none => none

/-- run, cut down, keys renamed -/
def runR (cx : Cx) (H : Hook) (sz lim : Nat) (orc : Orc) (base : Nat) (ts : List Nat) (ks : List (Nat × Nat)) (nx : Nat) (l : List Code) (s : St) : Option (Ex × St × List Prop) :=
  match execL cx H sz lim orc l s with
  | some (ex, s1, ob) => match ren base ts ks nx s1 with
    | some s' => some (ex, s', ob)
    | none => none
  | none => none

section
variable {P : Program} {H : Hook} {B : Nat} {cx cx' : Cx} {sz lim : Nat} {orc : Orc} {R : Ex → St → Prop} {s s' : St} {l : List Code} {base : Nat}

theorem Tri.chg (h : cx'.ng = cx.ng) (ht : Tri P B cx sz base l s R) : Tri P B cx' sz base l s R := by
  have hok : ∀ ρ t m nx a w, Ok B cx' sz ρ t m nx a w → Ok B cx sz ρ t m nx a w := fun ρ t m nx a w k => ⟨k.tm, k.size, by rw [← h]; exact k.mem, k.noDefer⟩
  have hok' : ∀ ρ t m nx a w, Ok B cx sz ρ t m nx a w → Ok B cx' sz ρ t m nx a w := fun ρ t m nx a w k => ⟨k.tm, k.size, by rw [h]; exact k.mem, k.noDefer⟩
  intro hng hbs ρ a w k
  refine wpCs_mono (fun e a' w' ⟨ex, s', h1, h2, ρ', h3, h4⟩ => ⟨ex, s', h1, h2, ρ', hok' _ _ _ _ _ _ h3, by rw [h]; exact h4⟩) _ a w (ht (by rw [← h]; exact hng) hbs ρ a w (hok _ _ _ _ _ _ k))

/-- the first n pieces of code, by the run -/
theorem Tri.step (hmix : P.follows .mixedOrders = true) (hT : TysOk P cx.T) (hH : HookOk P B cx.ng H) (n lim : Nat) (orc : Orc) (ts ks : List Nat) (nx : Nat) (s' : St) (ob : List Prop) (hx : runC cx H sz lim orc ts ks nx (l.take n) s = some (.n, s', ob)) (hob : ∀ p ∈ ob, p)
    (hle : Nat.ble s.nx nx = true) (h : Tri P B cx sz base (l.drop n) s' R) : Tri P B cx sz base l s R := by
  unfold runC at hx
  split at hx <;> first | (cases hx; done) | skip
  rename_i ex s1 ob1 h1
  split at hx <;> first | (cases hx; done) | skip
  rename_i s2 h2
  cases hx
  exact Tri.run hmix hT hH n h1 hob h2 (Nat.le_of_ble_eq_true hle) h

/-- all of it -/
theorem Tri.fin (hmix : P.follows .mixedOrders = true) (hT : TysOk P cx.T) (hH : HookOk P B cx.ng H) (lim : Nat) (orc : Orc) (ts ks : List Nat) (nx : Nat) (ex : Ex) (s' : St) (ob : List Prop) (hx : runC cx H sz lim orc ts ks nx l s = some (ex, s', ob)) (hob : ∀ p ∈ ob, p)
    (hle : Nat.ble s.nx nx = true) (h : R ex s') : Tri P B cx sz base l s R := by
  unfold runC at hx
  split at hx <;> first | (cases hx; done) | skip
  rename_i ex s1 ob1 h1
  split at hx <;> first | (cases hx; done) | skip
  rename_i s2 h2
  cases hx
  exact Tri.done hmix hT hH h1 hob h2 (Nat.le_of_ble_eq_true hle) h

/-- all of it, keys renamed -/
theorem Tri.finR (hmix : P.follows .mixedOrders = true) (hT : TysOk P cx.T) (hH : HookOk P B cx.ng H) (lim : Nat) (orc : Orc) (ts : List Nat) (ks : List (Nat × Nat)) (nx : Nat) (ex : Ex) (s' : St) (ob : List Prop)
    (hx : runR cx H sz lim orc base ts ks nx l s = some (ex, s', ob)) (hob : ∀ p ∈ ob, p) (h : R ex s') : Tri P B cx sz base l s R := by
  unfold runR at hx
  split at hx <;> first | (cases hx; done) | skip
  rename_i ex s1 ob1 h1
  split at hx <;> first | (cases hx; done) | skip
  rename_i s2 h2
  cases hx
  intro hng hbs ρ a w hok
  rw [show l = l ++ [] by simp]
  refine execL_wp hmix hT hH _ _ s s1 ex ob ρ a w _ h1 hob hok fun a' w' ⟨ρ1, hok1, hp1⟩ => ?_
  obtain ⟨ρ2, h3, h4, h5⟩ := ren_ok h2 hng hok1
  have key : Fin B cx sz R ρ s.m base w ex.to a' w' := ⟨ex, s', rfl, h, ρ2, h4, (hp1.low hbs).transB h5 (Nat.le_refl _)⟩
  cases ex <;> exact key

/-- the first n pieces of code, by the run, keys renamed -/
theorem Tri.stepR (hmix : P.follows .mixedOrders = true) (hT : TysOk P cx.T) (hH : HookOk P B cx.ng H) (n lim : Nat) (orc : Orc) (ts : List Nat) (ks : List (Nat × Nat)) (nx : Nat) (s' : St) (ob : List Prop)
    (hx : runR cx H sz lim orc base ts ks nx (l.take n) s = some (.n, s', ob)) (hob : ∀ p ∈ ob, p) (h : Tri P B cx sz base (l.drop n) s' R) : Tri P B cx sz base l s R := by
  unfold runR at hx
  split at hx <;> first | (cases hx; done) | skip
  rename_i ex s1 ob1 h1
  split at hx <;> first | (cases hx; done) | skip
  rename_i s2 h2
  cases hx
  intro hng hbs ρ a w hok
  rw [show l = l.take n ++ l.drop n from (List.take_append_drop n l).symm]
  refine execL_wp hmix hT hH _ _ s s1 .n ob ρ a w _ h1 hob hok fun a' w' ⟨ρ1, hok1, hp1⟩ => ?_
  obtain ⟨ρ2, h3, h4, h5⟩ := ren_ok h2 hng hok1
  exact wpCs_mono (fun e a2 w2 q => Fin.of_later ((hp1.low hbs).transB h5 (Nat.le_refl _)) (Nat.le_refl _) q) _ a' w' (h hng h3 ρ2 a' w' h4)

/-- what a function's end must be -/
def Ret (cx : Cx) (rs : List ResultVar) (e : Ef) (ex : Ex) (s' : St) : Prop :=
  (match ex with
    | .x _ => False
    | _ => True) ∧ ∃ ks ob, endsAs cx rs ks e.nx s' = some (e.v, e.m, ob) ∧ ∀ p ∈ ob, p

theorem FnE.tri (hT : TysOk P cx.T) {f : FuncId} {fn : Func} {c : Code} (hf : P.funcs[f]? = some fn) (hb : fn.body = some c) (hn : (fn.name == "runtime.NumGoroutine") = false) (hsz : fn.ntmps = sz) {args : List SV} (hlen : Nat.ble args.length sz = true) {m : Mem} {nx : Nat} {e : Ef}
    (hlt : args.all (SV.lt nx) = true) (hle : nx ≤ e.nx) (ht : Tri P B cx sz nx (flat c) ⟨enum 0 args, m, nx⟩ (Ret cx fn.results.toList e)) : FnE P B cx.ng f args m nx e :=
  FnE.of_tri hT hf hb hn hsz (Nat.le_of_ble_eq_true hlen) hlt hle ht

/-- to the function's end -/
theorem Tri.ret (hmix : P.follows .mixedOrders = true) (hT : TysOk P cx.T) (hH : HookOk P B cx.ng H) (lim : Nat) (orc : Orc) (ts ks : List Nat) (nx : Nat) (s' : St) (ob : List Prop) {rs : List ResultVar} {e : Ef} (ex : Ex) (hx : runC cx H sz lim orc ts ks nx l s = some (ex, s', ob)) (hob : ∀ p ∈ ob, p)
    (hle : Nat.ble s.nx nx = true) (hex : (match ex with
    | .x _ => false
    | _ => true) = true) (ks2 : List Nat) (ob2 : List Prop) (hr : endsAs cx rs ks2 e.nx s' = some (e.v, e.m, ob2)) (hob2 : ∀ p ∈ ob2, p) : Tri P B cx sz base l s (Ret cx rs e) :=
  Tri.fin hmix hT hH lim orc ts ks nx ex s' ob hx hob hle ⟨by cases ex <;> first | trivial | (cases hex), ks2, ob2, hr, hob2⟩
end

def ifcB (P : Program) (t : TypeId) : Bool := match P.underlying t with
  | some (.interface _) => true
  | _ => false

theorem TyOk.ifc' {P : Program} {t : TypeId} {b : Nat} {z : List SegD} (h1 : ifcB P t = true) (h2 : infoB P t = some (1, b, some (zCells z))) (hz : z.all (SegD.lt 0) = true) : TyOk P t ⟨.ifc, 1, z, false⟩ := by
  unfold ifcB at h1
  split at h1 <;> first | (cases h1; done) | skip
  rename_i ms h
  exact .ifc h h2 hz

end Go.Sx
