/- Lists of known length, cell by cell. Conditions: none; plain definitions and theorems over any program. -/
import Derived.Test.YtnloecdkogckiaaDoorSx28
set_option linter.unusedVariables false
namespace Go.Sx
open Go.RowKit

/-- the first n cells, each as itself -/
def lit {α : Type} (z : α) (n : Nat) (l : List α) : List α := (List.range n).map fun j => l.getD j z

theorem lit_eq {α : Type} {z : α} {n : Nat} {l : List α} (h : l.length = n) : lit z n l = l := by
  apply List.ext_getElem?
  intro j
  unfold lit
  rw [List.getElem?_map]
  rcases Nat.lt_or_ge j n with hj | hj
  · rw [List.getElem?_range hj]
    simp [List.getD, show j < l.length by omega]
  · rw [List.getElem?_eq_none (by simpa using hj), List.getElem?_eq_none (by omega)]
    rfl

theorem lit_length {α : Type} (z : α) (n : Nat) (l : List α) : (lit z n l).length = n := by simp [lit]

theorem hookOk_nil (P : Program) (B : Nat) (cx : Cx) : HookOk P B cx.ng (hookT cx []) := hookT_ok (TabOk.nil P B cx.ng)

theorem obNil : ∀ p ∈ ([] : List Prop), p := fun p h => by cases h
theorem obCons {a : Prop} {l : List Prop} (h : a) (hl : ∀ p ∈ l, p) : ∀ p ∈ a :: l, p := fun p hp => by
  cases hp with
  | head => exact h
  | tail _ hp => exact hl p hp

/-- the state after a run, for its shape -/
def stOf (r : Res) : St := match r with
  | some (_, s, _) => s
  | none => ⟨[], [], 0⟩

/-- a whole straight body: run, cut down, read -/
theorem FnE.run {P : Program} {B : Nat} {cx : Cx} {H : Hook} (lim : Nat) (orc : Orc) (hmix : P.follows .mixedOrders = true) (hT : TysOk P cx.T) (hH : HookOk P B cx.ng H) {f : FuncId} {fn : Func} {c : Code} (hf : P.funcs[f]? = some fn) (hb : fn.body = some c)
    (hn : (fn.name == "runtime.NumGoroutine") = false) {args : List SV} (hlen : Nat.ble args.length fn.ntmps = true) {m : Mem} {nx : Nat} {e : Ef} (hlt : args.all (SV.lt nx) = true) (hle : nx ≤ e.nx) {ts ks : List Nat} {s' : St} {ob : List Prop}
    (hx : (match execL cx H fn.ntmps lim orc (flat c) ⟨enum 0 args, m, nx⟩ with
      | some (.x _, _, _) => none
      | some (_, s1, ob) => (match cut ts ks e.nx s1 with
        | some s' => some (s', ob)
        | none => none)
      | none => none) = some (s', ob)) (hob : ∀ p ∈ ob, p) {ob2 : List Prop} (hr : endsAs cx fn.results.toList ks e.nx s' = some (e.v, e.m, ob2)) (hob2 : ∀ p ∈ ob2, p) : FnE P B cx.ng f args m nx e := by
  refine FnE.of_tri hT hf hb hn rfl (Nat.le_of_ble_eq_true hlen) hlt hle ?_
  split at hx <;> first | (cases hx; done) | skip
  rename_i ex s1 ob1 hnx hex
  split at hx <;> first | (cases hx; done) | skip
  rename_i s2 hcut
  cases hx
  refine Tri.done hmix hT hH hex hob hcut hle ⟨?_, ks, ob2, hr, hob2⟩
  cases ex with
  | n => trivial
  | x i => exact (hnx i rfl).elim
  | r => trivial

end Go.Sx
