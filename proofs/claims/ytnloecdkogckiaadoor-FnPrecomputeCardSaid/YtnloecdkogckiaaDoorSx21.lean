/- Types of a program, read off by the kernel. Conditions: none; plain definitions and theorems over any program. -/
import Derived.Test.YtnloecdkogckiaaDoorSx20
set_option linter.unusedVariables false
namespace Go.Sx
open Go.RowKit

def infoB (P : Program) (t : TypeId) : Option (Nat × Nat × Option (Array Value)) := match P.info? t with
  | some i => some (i.size, i.bytes, match i.zero with
    | some v => some v.cells
    | none => none)
  | none => none

def aggOf (P : Program) (t : TypeId) : Option Bool := match P.underlying t with
  | some d => some (aggB d)
  | none => none

def sizeOf' (P : Program) (t : TypeId) : Option Nat := match P.info? t with
  | some i => some i.size
  | none => none

theorem infoB_spec {P : Program} {t : TypeId} {a b : Nat} {z : Option (Array Value)} (h : infoB P t = some (a, b, z)) : ∃ i, P.info? t = some i ∧ i.size = a ∧ i.bytes = b ∧ (∀ c, z = some c → ∃ zv, i.zero = some zv ∧ zv.cells = c) := by
  unfold infoB at h
  split at h <;> first | (cases h; done) | skip
  rename_i i hi
  cases h
  refine ⟨i, hi, rfl, rfl, fun c hc => ?_⟩
  split at hc
  · rename_i v hv; cases hc; exact ⟨v, hv, rfl⟩
  · cases hc

theorem aggOf_spec {P : Program} {t : TypeId} {b : Bool} (h : aggOf P t = some b) : ∃ d, P.underlying t = some d ∧ aggB d = b := by
  unfold aggOf at h
  split at h
  · rename_i d hd; cases h; exact ⟨d, hd, rfl⟩
  · cases h

theorem sizeOf'_spec {P : Program} {t : TypeId} {n : Nat} (h : sizeOf' P t = some n) : ∃ i, P.info? t = some i ∧ i.size = n := by
  unfold sizeOf' at h
  split at h
  · rename_i i hi; cases h; exact ⟨i, hi, rfl⟩
  · cases h

def zCells (z : List SegD) : Array Value := (z.flatMap (SegD.cells (fun _ => ⟨0, 0, 0, false⟩))).toArray

def stRow (P : Program) : List Field → Option (List (Nat × Nat × Bool))
  | [] => some []
  | f :: r => match sizeOf' P f.type, aggOf P f.type, stRow P r with
    | some s, some a, some l => some ((f.offset, s, a) :: l)
    | _, _, _ => none

def stInfo (P : Program) (t : TypeId) : Option (List (Nat × Nat × Bool)) := match P.underlying t with
  | some (.struct F) => stRow P F.toList
  | _ => none

theorem stRow_spec {P : Program} : ∀ {l : List Field} {fs : List (Nat × Nat × Bool)}, stRow P l = some fs → l.map (fun f => f.offset) = fs.map (·.1) ∧
    ∀ (i : Nat) (f : Field) (x : Nat × Nat × Bool), l[i]? = some f → fs[i]? = some x → (∃ j, P.info? f.type = some j ∧ j.size = x.2.1) ∧ (∃ d, P.underlying f.type = some d ∧ aggB d = x.2.2)
  | [], fs, h => by cases h; exact ⟨rfl, fun i f x hf => by simp at hf⟩
  | f :: r, fs, h => by
    simp only [stRow] at h
    split at h <;> first | (cases h; done) | skip
    rename_i s a l h1 h2 h3
    cases h
    obtain ⟨k1, k2⟩ := stRow_spec h3
    refine ⟨by simp [k1], fun i g x hg hx => ?_⟩
    cases i with
    | zero =>
      simp only [List.getElem?_cons_zero, Option.some.injEq] at hg hx
      subst hg hx
      exact ⟨sizeOf'_spec h1, aggOf_spec h2⟩
    | succ i => exact k2 i g x (by simpa using hg) (by simpa using hx)

section
variable {P : Program} {t : TypeId}

theorem szOf {sz b : Nat} {z : List SegD} (h : infoB P t = some (sz, b, some (zCells z))) : ∃ i, P.info? t = some i ∧ i.size = sz ∧ (z ≠ [] → ∃ zv, i.zero = some zv ∧ zv.cells = (z.flatMap (SegD.cells (fun _ => ⟨0, 0, 0, false⟩))).toArray) := by
  obtain ⟨i, h1, h2, _, h4⟩ := infoB_spec h
  exact ⟨i, h1, h2, fun _ => h4 _ rfl⟩

theorem TyOk.int {k : IntKind} {b : Nat} {z : List SegD} (h1 : P.underlying t = some (.int k)) (h2 : infoB P t = some (1, b, some (zCells z))) (hz : z.all (SegD.lt 0) = true) : TyOk P t ⟨.int k, 1, z, false⟩ :=
  ⟨szOf h2, fun h => (by cases h), hz, h1⟩
theorem TyOk.bool {b : Nat} {z : List SegD} (h1 : P.underlying t = some .bool) (h2 : infoB P t = some (1, b, some (zCells z))) (hz : z.all (SegD.lt 0) = true) : TyOk P t ⟨.bool, 1, z, false⟩ :=
  ⟨szOf h2, fun h => (by cases h), hz, h1⟩
theorem TyOk.str {b : Nat} {z : List SegD} (h1 : P.underlying t = some .string) (h2 : infoB P t = some (1, b, some (zCells z))) (hz : z.all (SegD.lt 0) = true) : TyOk P t ⟨.str, 1, z, false⟩ :=
  ⟨szOf h2, fun h => (by cases h), hz, h1⟩
theorem TyOk.ptr {e : TypeId} {b : Nat} {z : List SegD} (h1 : P.underlying t = some (.pointer e)) (h2 : infoB P t = some (1, b, some (zCells z))) (hz : z.all (SegD.lt 0) = true) : TyOk P t ⟨.ptr e, 1, z, false⟩ :=
  ⟨szOf h2, fun h => (by cases h), hz, h1⟩
theorem TyOk.arr {n e es b : Nat} {ea : Bool} {z : List SegD} {sz : Nat} (h1 : P.underlying t = some (.array n e)) (h2 : infoB P t = some (sz, b, some (zCells z))) (hz : z.all (SegD.lt 0) = true) (h3 : sizeOf' P e = some es) (h4 : aggOf P e = some ea) : TyOk P t ⟨.arr n e es ea, sz, z, false⟩ :=
  ⟨szOf h2, fun h => (by cases h), hz, h1, sizeOf'_spec h3, aggOf_spec h4⟩
theorem TyOk.arrEq {n e b : Nat} {k : IntKind} {z : List SegD} {sz : Nat} (h1 : P.underlying t = some (.array n e)) (h2 : infoB P t = some (sz, b, some (zCells z))) (hz : z.all (SegD.lt 0) = true) (h3 : sizeOf' P e = some 1) (h4 : P.underlying e = some (.int k))
    (h5 : P.eqGuardType P.depth t = false) : TyOk P t ⟨.arr n e 1 false, sz, z, true⟩ :=
  ⟨szOf h2, fun _ => ⟨h5, n, e, k, h1, h4, sizeOf'_spec h3⟩, hz, h1, sizeOf'_spec h3, ⟨_, h4, rfl⟩⟩
theorem TyOk.slc {e es b eb : Nat} {ea : Bool} {z : List SegD} {zo : Option (Array Value)} (h1 : P.underlying t = some (.slice e)) (h2 : infoB P t = some (1, b, some (zCells z))) (hz : z.all (SegD.lt 0) = true) (h3 : infoB P e = some (es, eb, zo)) (h4 : aggOf P e = some ea) : TyOk P t ⟨.slc e es ea eb, 1, z, false⟩ := by
  obtain ⟨i, a1, a2, a3, _⟩ := infoB_spec h3
  exact ⟨szOf h2, fun h => (by cases h), hz, h1, ⟨i, a1, a2, a3⟩, aggOf_spec h4⟩
theorem TyOk.ifc {ms : Array (String × TypeId)} {b : Nat} {z : List SegD} (h1 : P.underlying t = some (.interface ms)) (h2 : infoB P t = some (1, b, some (zCells z))) (hz : z.all (SegD.lt 0) = true) : TyOk P t ⟨.ifc, 1, z, false⟩ :=
  ⟨szOf h2, fun h => (by cases h), hz, ⟨_, h1⟩⟩

theorem TyOk.st {b : Nat} {z : List SegD} {sz : Nat} {fs : List (Nat × Nat × Bool)} (h1 : stInfo P t = some fs) (h2 : infoB P t = some (sz, b, some (zCells z))) (hz : z.all (SegD.lt 0) = true) : TyOk P t ⟨.st fs, sz, z, false⟩ := by
  refine ⟨szOf h2, fun e => (by cases e), hz, ?_⟩
  unfold stInfo at h1
  split at h1 <;> first | (cases h1; done) | skip
  rename_i F hF
  obtain ⟨k1, k2⟩ := stRow_spec h1
  exact ⟨F, hF, k1, fun i f x hf hx => k2 i f x (by simpa using hf) hx⟩

theorem TysOk.nil : TysOk P [] := fun t ti h => by cases h
theorem TysOk.cons {ti : TyI} {T : Tys} (h : TyOk P t ti) (hT : TysOk P T) : TysOk P ((t, ti) :: T) := fun t' ti' h' => by
  rw [find_cons] at h'
  by_cases e : t = t'
  · rw [if_pos e] at h'; cases h'; subst e; exact h
  · rw [if_neg e] at h'; exact hT t' ti' h'

end

theorem HookOk.none (P : Program) (B ng : Nat) : HookOk P B ng (fun _ _ _ _ => none) := fun f args m nx e h => by cases h

end Go.Sx
