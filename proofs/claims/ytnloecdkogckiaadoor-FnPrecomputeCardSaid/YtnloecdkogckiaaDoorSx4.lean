/- Rows of cells in pieces: reading, cutting, putting. Conditions: none; plain definitions and theorems. -/
import Derived.Test.YtnloecdkogckiaaDoorSx3
set_option linter.unusedVariables false
namespace Go.Sx

def SegD.get : SegD → Nat → Option Sc
  | .d8 l, n => match l[n]? with
    | some x => some (.u8 x)
    | none => none
  | .d32 l, n => match l[n]? with
    | some x => some (.u32 x)
    | none => none
  | .d64 l, n => match l[n]? with
    | some x => some (.u64 x)
    | none => none
  | .di l, n => match l[n]? with
    | some x => some (.i x)
    | none => none
  | .dc l, n => l[n]?

theorem SegD.get_eq (d : SegD) (n : Nat) : d.get n = d.scs[n]? := by
  cases d with
  | dc l => rfl
  | d8 l => simp only [SegD.get, SegD.scs, List.getElem?_map]; cases l[n]? <;> rfl
  | d32 l => simp only [SegD.get, SegD.scs, List.getElem?_map]; cases l[n]? <;> rfl
  | d64 l => simp only [SegD.get, SegD.scs, List.getElem?_map]; cases l[n]? <;> rfl
  | di l => simp only [SegD.get, SegD.scs, List.getElem?_map]; cases l[n]? <;> rfl

/-- a cell, by its place, whether or not the place is known to be there -/
def SegD.getT : SegD → Nat → Option Sc
  | .d8 l, n => some (.u8 (l.getD n 0))
  | .d32 l, n => some (.u32 (l.getD n 0))
  | .d64 l, n => some (.u64 (l.getD n 0))
  | .di l, n => some (.i (l.getD n 0))
  | .dc l, n => l[n]?

theorem SegD.getT_eq {d : SegD} {n : Nat} {x : Sc} (h : d.getT n = some x) (hn : n < d.len) : d.scs[n]? = some x := by
  cases d <;> simp only [SegD.getT, SegD.len, Option.some.injEq] at h hn
  case dc l => exact h
  all_goals (subst h; simp [SegD.scs, hn])

def loadX (cx : Cx) (d : SegD) (n : Nat) : Option (Sc × List Prop) :=
  bif cx.chk then (match d.get n with
    | some x => some (x, [])
    | none => none) else (match d.getT n with
    | some x => some (x, [n < d.len])
    | none => none)

theorem loadX_spec {cx : Cx} {d : SegD} {n : Nat} {x : Sc} {ob : List Prop} (h : loadX cx d n = some (x, ob)) (hob : ∀ q ∈ ob, q) : d.scs[n]? = some x := by
  unfold loadX at h
  cases hc : cx.chk with
  | true =>
    rw [hc, cond_true] at h
    split at h
    · rename_i y hy; cases h; rw [← SegD.get_eq]; exact hy
    · cases h
  | false =>
    rw [hc, cond_false] at h
    split at h
    · rename_i y hy; cases h; exact SegD.getT_eq hy (hob _ (by simp))
    · cases h

/-- n cells from o on -/
def SegD.sub : SegD → Nat → Nat → SegD
  | .d8 l, o, n => .d8 ((l.drop o).take n)
  | .d32 l, o, n => .d32 ((l.drop o).take n)
  | .d64 l, o, n => .d64 ((l.drop o).take n)
  | .di l, o, n => .di ((l.drop o).take n)
  | .dc l, o, n => .dc ((l.drop o).take n)

theorem SegD.sub_scs (d : SegD) (o n : Nat) : (d.sub o n).scs = (d.scs.drop o).take n := by
  cases d <;> simp [SegD.sub, SegD.scs, List.map_take, List.map_drop]

theorem SegD.sub_lt {k : Nat} {d : SegD} (h : d.lt k = true) (o n : Nat) : (d.sub o n).lt k = true := by
  cases d <;> try rfl
  refine List.all_eq_true.2 fun x hx => List.all_eq_true.1 h x ?_
  exact List.mem_of_mem_drop (List.mem_of_mem_take hx)

/-- one cell put -/
def SegD.put : SegD → Nat → Sc → Option SegD
  | .d8 l, n, .u8 x => some (.d8 (l.set n x))
  | .d32 l, n, .u32 x => some (.d32 (l.set n x))
  | .d64 l, n, .u64 x => some (.d64 (l.set n x))
  | .di l, n, .i x => some (.di (l.set n x))
  | .dc l, n, x => some (.dc (l.set n x))
  | _, _, _ => none

theorem SegD.put_spec {d d' : SegD} {n : Nat} {x : Sc} (h : d.put n x = some d') : d'.scs = d.scs.set n x ∧ d'.len = d.len ∧ ∀ k, d.lt k = true → x.lt k = true → d'.lt k = true := by
  unfold SegD.put at h
  split at h <;> first | (cases h; refine ⟨by simp [SegD.scs, List.map_set], by simp [SegD.len], fun k h1 h2 => ?_⟩) | cases h
  all_goals first | rfl | skip
  refine List.all_eq_true.2 fun y hy => ?_
  rcases List.mem_or_eq_of_mem_set hy with h3 | h3
  · exact List.all_eq_true.1 h1 y h3
  · rw [h3]; exact h2

/-- l with e from o on -/
def splice {α : Type} (l : List α) (o : Nat) (e : List α) : List α := l.take o ++ (e ++ l.drop (o + e.length))

theorem splice_length {α : Type} (l : List α) (o : Nat) (e : List α) (h : o + e.length ≤ l.length) : (splice l o e).length = l.length := by
  simp [splice]; omega

theorem splice_map {α β : Type} (f : α → β) (l : List α) (o : Nat) (e : List α) : (splice l o e).map f = splice (l.map f) o (e.map f) := by
  simp [splice, List.map_take, List.map_drop]

def SegD.spl : SegD → Nat → SegD → Option SegD
  | .d8 l, o, .d8 e => some (.d8 (splice l o e))
  | .d32 l, o, .d32 e => some (.d32 (splice l o e))
  | .d64 l, o, .d64 e => some (.d64 (splice l o e))
  | .di l, o, .di e => some (.di (splice l o e))
  | .dc l, o, .dc e => some (.dc (splice l o e))
  | _, _, _ => none

theorem SegD.spl_spec {d d' e : SegD} {o : Nat} (h : d.spl o e = some d') : d'.scs = splice d.scs o e.scs ∧ (o + e.len ≤ d.len → d'.len = d.len) ∧ ∀ k, d.lt k = true → e.lt k = true → d'.lt k = true := by
  unfold SegD.spl at h
  split at h <;> first | (cases h; refine ⟨by simp [SegD.scs, splice_map], fun hl => by simp only [SegD.len] at hl ⊢; exact splice_length _ _ _ hl, fun k h1 h2 => ?_⟩) | cases h
  all_goals first | rfl | skip
  refine List.all_eq_true.2 fun y hy => ?_
  simp only [splice, List.mem_append] at hy
  rcases hy with h3 | h3 | h3
  · exact List.all_eq_true.1 h1 y (List.mem_of_mem_take h3)
  · exact List.all_eq_true.1 h2 y h3
  · exact List.all_eq_true.1 h1 y (List.mem_of_mem_drop h3)

theorem splice_get_in {α : Type} (l : List α) (o : Nat) (e : List α) (h : o + e.length ≤ l.length) (j : Nat) (hj : j < e.length) : (splice l o e)[o + j]? = e[j]? := by
  unfold splice
  have hl : (l.take o).length = o := by simp; omega
  rw [List.getElem?_append_right (by omega), hl, show o + j - o = j by omega, List.getElem?_append_left hj]

theorem splice_get_out {α : Type} (l : List α) (o : Nat) (e : List α) (h : o + e.length ≤ l.length) (j : Nat) (hj : j < o ∨ o + e.length ≤ j) : (splice l o e)[j]? = l[j]? := by
  unfold splice
  have hl : (l.take o).length = o := by simp; omega
  rcases hj with h1 | h1
  · rw [List.getElem?_append_left (by omega), List.getElem?_take_of_lt h1]
  · rw [List.getElem?_append_right (by omega), hl, List.getElem?_append_right (by omega), List.getElem?_drop]
    congr 1; omega

theorem set_eq_splice {α : Type} (l : List α) (o : Nat) (x : α) (h : o < l.length) : l.set o x = splice l o [x] := by
  apply List.ext_getElem?
  intro j
  by_cases hj : j = o
  · subst hj
    have := splice_get_in l j [x] (by simp; omega) 0 (by simp)
    rw [Nat.add_zero] at this
    rw [this, List.getElem?_set_self h]; rfl
  · rw [splice_get_out l o [x] (by simp; omega) j (by simp; omega), List.getElem?_set_ne (Ne.symm hj)]

/-! ### Several pieces -/

def pcells (ρ : Env) (l : List SegD) : List Value := l.flatMap (SegD.cells ρ)

theorem cells_length (ρ : Env) (d : SegD) : (d.cells ρ).length = d.len := by rw [SegD.cells, List.length_map, scs_length]

def plen : List SegD → Nat
  | [] => 0
  | d :: r => d.len + plen r

theorem pcells_length (ρ : Env) : ∀ l, (pcells ρ l).length = plen l
  | [] => rfl
  | d :: r => by
    have := pcells_length ρ r
    simp only [pcells, List.flatMap_cons, List.length_append, cells_length, plen] at *
    omega

def pget : List SegD → Nat → Option Sc
  | [], _ => none
  | d :: r, o => bif Nat.blt o d.len then d.get o else pget r (o - d.len)

theorem pget_eq (ρ : Env) : ∀ (l : List SegD) (o : Nat) (x : Sc), pget l o = some x → (pcells ρ l)[o]? = some (x.den ρ)
  | [], _, _, h => by cases h
  | d :: r, o, x, h => by
    simp only [pget] at h
    simp only [pcells, List.flatMap_cons]
    cases hb : Nat.blt o d.len with
    | true =>
      rw [hb, cond_true, SegD.get_eq] at h
      rw [List.getElem?_append_left (by rw [cells_length]; exact blt_iff.1 hb), SegD.cells, List.getElem?_map, h]
      rfl
    | false =>
      rw [hb, cond_false] at h
      have hn : ¬ o < d.len := fun hh => by rw [blt_iff.2 hh] at hb; cases hb
      rw [List.getElem?_append_right (by rw [cells_length]; omega), cells_length]
      exact pget_eq ρ r _ x h

theorem pget_lt {k : Nat} : ∀ (l : List SegD) (o : Nat) (x : Sc), l.all (SegD.lt k) = true → pget l o = some x → x.lt k = true
  | [], _, _, _, h => by cases h
  | d :: r, o, x, hw, h => by
    simp only [List.all_cons, Bool.and_eq_true] at hw
    simp only [pget] at h
    cases hb : Nat.blt o d.len with
    | true =>
      rw [hb, cond_true, SegD.get_eq] at h
      exact SegD.scs_lt hw.1 x (List.mem_of_getElem? h)
    | false =>
      rw [hb, cond_false] at h
      exact pget_lt r _ x hw.2 h

def psub : List SegD → Nat → Nat → Option SegD
  | [], _, _ => none
  | d :: r, o, n => bif Nat.blt o d.len then (bif Nat.ble (o + n) d.len then some (d.sub o n) else none) else psub r (o - d.len) n

theorem psub_eq (ρ : Env) : ∀ (l : List SegD) (o n : Nat) (e : SegD), psub l o n = some e → e.cells ρ = ((pcells ρ l).drop o).take n ∧ ∀ k, l.all (SegD.lt k) = true → e.lt k = true
  | [], _, _, _, h => by cases h
  | d :: r, o, n, e, h => by
    simp only [psub] at h
    simp only [pcells, List.flatMap_cons]
    cases hb : Nat.blt o d.len with
    | true =>
      rw [hb, cond_true] at h
      cases hc : Nat.ble (o + n) d.len with
      | false => rw [hc] at h; cases h
      | true =>
        rw [hc, cond_true, Option.some.injEq] at h
        subst h
        have h1 := blt_iff.1 hb
        have h2 := Nat.le_of_ble_eq_true hc
        refine ⟨?_, fun k hk => SegD.sub_lt (by simp only [List.all_cons, Bool.and_eq_true] at hk; exact hk.1) _ _⟩
        rw [List.drop_append_of_le_length (by rw [cells_length]; omega), List.take_append_of_le_length (by rw [List.length_drop, cells_length]; omega)]
        simp [SegD.cells, SegD.sub_scs, List.map_take, List.map_drop]
    | false =>
      rw [hb, cond_false] at h
      have hn : ¬ o < d.len := fun hh => by rw [blt_iff.2 hh] at hb; cases hb
      obtain ⟨h1, h2⟩ := psub_eq ρ r _ n e h
      refine ⟨?_, fun k hk => h2 k (by simp only [List.all_cons, Bool.and_eq_true] at hk; exact hk.2)⟩
      have hcl := cells_length ρ d
      have he : (d.cells ρ).drop o = [] := List.drop_eq_nil_of_le (by omega)
      rw [h1, List.drop_append, hcl, he, List.nil_append]
      rfl

def SegD.place (d : SegD) (o : Nat) : SV0 → Option SegD
  | .s x => d.put o x
  | .ag [e] => bif Nat.ble (o + e.len) d.len then d.spl o e else none
  | .ag _ => none

def SV0.len : SV0 → Nat
  | .s _ => 1
  | .ag l => plen l

def SV0.cellsOf (ρ : Env) : SV0 → List Value
  | .s x => [x.den ρ]
  | .ag l => pcells ρ l

theorem SV0.cellsOf_length (ρ : Env) (v : SV0) : (v.cellsOf ρ).length = v.len := by
  cases v with
  | s x => rfl
  | ag l => exact pcells_length ρ l

theorem SegD.place_spec {d d' : SegD} {o : Nat} {v : SV0} (h : d.place o v = some d') (ho : o + v.len ≤ d.len) :
    (∀ ρ, d'.cells ρ = splice (d.cells ρ) o (v.cellsOf ρ)) ∧ d'.len = d.len ∧ ∀ k, d.lt k = true → v.lt k = true → d'.lt k = true := by
  unfold SegD.place at h
  split at h
  · rename_i x
    obtain ⟨h1, h2, h3⟩ := SegD.put_spec h
    refine ⟨fun ρ => ?_, h2, h3⟩
    simp only [SV0.len] at ho
    rw [SegD.cells, h1, List.map_set, set_eq_splice _ _ _ (by rw [List.length_map, scs_length]; omega)]
    rfl
  · rename_i e
    cases hc : Nat.ble (o + e.len) d.len with
    | false => rw [hc] at h; cases h
    | true =>
      rw [hc, cond_true] at h
      obtain ⟨h1, h2, h3⟩ := SegD.spl_spec h
      refine ⟨fun ρ => ?_, h2 (Nat.le_of_ble_eq_true hc), fun k a b => h3 k a (by simpa [SV0.lt] using b)⟩
      rw [SegD.cells, h1, splice_map]
      simp [SV0.cellsOf, pcells, SegD.cells]
  · cases h

def pput : List SegD → Nat → SV0 → Option (List SegD)
  | [], _, _ => none
  | d :: r, o, v => bif Nat.blt o d.len then (bif Nat.ble (o + v.len) d.len then (match d.place o v with
      | some d' => some (d' :: r)
      | none => none) else none) else (match pput r (o - d.len) v with
      | some r' => some (d :: r')
      | none => none)

theorem pput_spec : ∀ (l : List SegD) (o : Nat) (v : SV0) (l' : List SegD), pput l o v = some l' →
    (∀ ρ, pcells ρ l' = splice (pcells ρ l) o (v.cellsOf ρ)) ∧ o + v.len ≤ plen l ∧ plen l' = plen l ∧ ∀ k, l.all (SegD.lt k) = true → v.lt k = true → l'.all (SegD.lt k) = true
  | [], _, _, _, h => by cases h
  | d :: r, o, v, l', h => by
    simp only [pput] at h
    cases hb : Nat.blt o d.len with
    | true =>
      rw [hb, cond_true] at h
      cases hc : Nat.ble (o + v.len) d.len with
      | false => rw [hc] at h; cases h
      | true =>
        rw [hc, cond_true] at h
        split at h
        · rename_i d' hd
          cases h
          have h2 := Nat.le_of_ble_eq_true hc
          obtain ⟨a1, a2, a3⟩ := SegD.place_spec hd h2
          refine ⟨fun ρ => ?_, by simp only [plen]; omega, by simp [plen, a2], fun k hk hv => ?_⟩
          · simp only [pcells, List.flatMap_cons, a1 ρ]
            have hl : o + (v.cellsOf ρ).length ≤ (d.cells ρ).length := by rw [SV0.cellsOf_length, cells_length]; exact h2
            simp only [splice, List.append_assoc]
            rw [List.take_append_of_le_length (by omega), List.drop_append_of_le_length (by omega)]
          · simp only [List.all_cons, Bool.and_eq_true] at hk ⊢
            exact ⟨a3 k hk.1 hv, hk.2⟩
        · cases h
    | false =>
      rw [hb, cond_false] at h
      split at h
      · rename_i r' hr
        cases h
        have hn : ¬ o < d.len := fun hh => by rw [blt_iff.2 hh] at hb; cases hb
        obtain ⟨a1, a2, a3, a4⟩ := pput_spec r _ v r' hr
        refine ⟨fun ρ => ?_, by simp only [plen]; omega, by simp [plen, a3], fun k hk hv => ?_⟩
        · have e := a1 ρ
          simp only [pcells] at e
          simp only [pcells, List.flatMap_cons, e, splice]
          have hcl := cells_length ρ d
          rw [List.take_append, List.take_of_length_le (by omega : (d.cells ρ).length ≤ o), hcl, List.append_assoc]
          rw [List.drop_append, List.drop_eq_nil_of_le (by omega : (d.cells ρ).length ≤ o + (v.cellsOf ρ).length), List.nil_append, hcl, show o - d.len + (v.cellsOf ρ).length = o + (v.cellsOf ρ).length - d.len by omega]
        · simp only [List.all_cons, Bool.and_eq_true] at hk ⊢
          exact ⟨hk.1, a4 k hk.2 hv⟩
      · cases h

/-- a value is no aggregate, no tuple: it fills one cell -/
def Sc.flat : Sc → Bool
  | .v x => match x with
    | .agg _ => false
    | .tuple _ => false
    | _ => true
  | _ => true

theorem Sc.cells_den {x : Sc} (h : x.flat = true) (ρ : Env) : (x.den ρ).cells = #[x.den ρ] ∧ (x.den ρ).oneCell' = true := by
  cases x with
  | v y => cases y <;> first | exact ⟨rfl, rfl⟩ | cases h
  | _ => exact ⟨rfl, rfl⟩

def SV0.flat : SV0 → Bool
  | .s x => x.flat
  | .ag l => l.all fun d => match d with
    | .dc l => l.all Sc.flat
    | _ => true

theorem SV0.cells_den {v : SV0} (h : v.flat = true) (ρ : Env) : (v.den ρ).cells.toList = v.cellsOf ρ := by
  cases v with
  | s x => rw [SV0.den, (Sc.cells_den h ρ).1]; rfl
  | ag l => rfl

theorem SegD.one {d : SegD} (h : (match d with
    | .dc l => l.all Sc.flat
    | _ => true) = true) (ρ : Env) : ∀ v ∈ d.cells ρ, v.oneCell' = true := by
  intro v hv
  simp only [SegD.cells, List.mem_map] at hv
  obtain ⟨x, hx, rfl⟩ := hv
  cases d <;> simp only [SegD.scs, List.mem_map] at hx
  case dc l => exact (Sc.cells_den (List.all_eq_true.1 h x hx) ρ).2
  all_goals (obtain ⟨y, _, rfl⟩ := hx; rfl)

theorem SV0.one {v : SV0} (h : v.flat = true) (ρ : Env) : ∀ x ∈ v.cellsOf ρ, x.oneCell' = true := by
  cases v with
  | s x => intro y hy; simp only [SV0.cellsOf, List.mem_singleton] at hy; rw [hy]; exact (Sc.cells_den h ρ).2
  | ag l =>
    intro y hy
    simp only [SV0.cellsOf, pcells, List.mem_flatMap] at hy
    obtain ⟨d, hd, hy⟩ := hy
    exact SegD.one (List.all_eq_true.1 h d hd) ρ y hy

theorem SegD.put_zv {d d' : SegD} {n : Nat} {x : Sc} (h : d.put n x = some d') : d'.zv = d.zv := by
  unfold SegD.put at h
  split at h <;> first | (cases h; done) | skip
  all_goals (cases h; rfl)

theorem SegD.spl_zv {d d' e : SegD} {o : Nat} (h : d.spl o e = some d') : d'.zv = d.zv := by
  unfold SegD.spl at h
  split at h <;> first | (cases h; done) | skip
  all_goals (cases h; rfl)

end Go.Sx
