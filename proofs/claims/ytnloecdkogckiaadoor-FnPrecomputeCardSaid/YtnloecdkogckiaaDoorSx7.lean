/- Symbolic operations on memory: loads, stores, new variables; and their soundness. Conditions: none; plain definitions and theorems over any program. -/
import Derived.Test.YtnloecdkogckiaaDoorSx6
set_option linter.unusedVariables false
namespace Go.Sx
open Go.RowKit

def undefS : SV := .one (.s (.v undef))

theorem storeCells_wr (P : Program) : ∀ (vs : List Value) (i : Nat) (w : World) (b o : Nat),
    (∀ j, j < vs.length → w.frozen? ⟨b, o + i + j, none⟩ = false ∧ ∃ u, w.cell? ⟨b, o + i + j, none⟩ = some u) → (∀ v ∈ vs, v.oneCell' = true) →
    ∃ w', (storeCells ⟨b, o, none⟩ vs i).run P w = .ok () w' ∧ Wr w w' b (o + i) vs.length (fun j => vs.getD j undef)
  | [], i, w, b, o, _, _ => ⟨w, by simp [storeCells], Wr.zero _ _ _ _⟩
  | v :: vs, i, w, b, o, hc, h1 => by
    obtain ⟨f0, u, c0⟩ := hc 0 (by simp)
    rw [Nat.add_zero] at f0 c0
    have hs : (store ⟨b, o + i, none⟩ v).run P w = .ok () (w.setCell ⟨b, o + i, none⟩ v) := by
      rw [run_store P w _ v _ (h1 v (by simp)), c0]
      simp [f0]
    have hW := Wr.one c0 v
    have hne : ∀ j, j < vs.length → (⟨b, o + i, none⟩ : Addr) ≠ ⟨b, o + (i + 1) + j, none⟩ := fun j _ e => by injection e with e1 e2; omega
    obtain ⟨w', r1, r2⟩ := storeCells_wr P vs (i + 1) (w.setCell ⟨b, o + i, none⟩ v) b o (fun j hj => by
      obtain ⟨f, u', c⟩ := hc (j + 1) (by simp; omega)
      rw [show o + i + (j + 1) = o + (i + 1) + j by omega] at f c
      refine ⟨by rw [World.frozen?_setCell]; exact f, u', ?_⟩
      rw [World.cell?_setCell_other _ _ _ _ (hne j hj)]; exact c) (fun x hx => h1 x (by simp [hx]))
    refine ⟨w', ?_, ?_⟩
    · simp only [storeCells, Sem.run_bind, add_none, hs, Result.andThen_ok]
      exact r1
    · have := Wr.cons hW (by rw [show o + i + 1 = o + (i + 1) by omega]; exact r2)
      rw [List.length_cons]
      have e : (fun j => if j = 0 then v else (fun j => vs.getD j undef) (j - 1)) = fun j => (v :: vs).getD j undef := by
        funext j
        cases j with
        | zero => rfl
        | succ j => simp
      rw [e] at this
      exact this

inductive K4 where
  | pure
  | read
  | new (L : List Seg)
  | eff

/-- what an operation comes to: its value, the memory, the next free key, of which kind it is, and what is owed -/
structure Ef where
  v : SV
  m : Mem
  nx : Nat
  c : K4
  ob : List Prop

def isAg : Ty → Option Bool
  | .arr _ _ _ _ => some true
  | .st _ => some true
  | .oth => none
  | _ => some false

/-- the pieces that make n cells, from key k on -/
def gather : Nat → Mem → Nat → Nat → Option (List SegD)
  | 0, _, _, _ => none
  | f + 1, m, k, n => match find m k with
    | some s => bif s.grow then none else (bif Nat.beq s.n n then some [s.d] else (bif Nat.blt s.n n && s.nxt then (match gather f m (k + 1) (n - s.n) with
        | some r => some (s.d :: r)
        | none => none) else none))
    | none => none

def loadM (cx : Cx) (t : TM) (m : Mem) (ty : TypeId) (x : Operand) : Option (SV × List Prop) :=
  match find cx.T ty, evs cx t x with
  | some ti, some (.p k o) => match isAg ti.d, find m k with
    | some false, some s => match loadX cx s.d o with
      | some (v, ob) => some (.one (.s v), ob)
      | none => none
    | some true, some s => bif Nat.beq ti.sz 0 then some (.one (.ag []), []) else (bif Nat.beq o 0 && (bif s.grow then false else Nat.ble s.n ti.sz) then (match gather 8 m k ti.sz with
        | some l => some (.one (.ag l), [])
        | none => none) else need cx (o + ti.sz ≤ s.d.len) (.one (.ag [s.d.sub o ti.sz])))
    | some true, none => bif Nat.beq ti.sz 0 then some (.one (.ag []), []) else none
    | _, _ => none
  | _, _ => none

section
variable {P : Program} {cx : Cx} {B ng : Nat} {ρ : Env} {t : TM} {m : Mem} {nx : Nat} {a : Act}

theorem run_loadCells_seg {k : Nat} {s : Seg} {w : World} (hs : SegOk B ρ k s w) {o n : Nat} (hn : o + n ≤ s.d.len) :
    (loadCells ⟨(ρ k).blk, (ρ k).off + o, none⟩ n).run P w = .ok (((s.d.cells ρ).drop o).take n).toArray w := by
  have hl : (((s.d.cells ρ).drop o).take n).length = n := by simp [cells_length]; omega
  have h := run_loadCells_list (P := P) w ⟨(ρ k).blk, (ρ k).off + o, none⟩ (((s.d.cells ρ).drop o).take n) (fun j v hv => by
    rw [add_none]
    have hj : j < n := by have := (List.getElem?_eq_some_iff.1 hv).1; omega
    rw [List.getElem?_take_of_lt hj, List.getElem?_drop, SegD.cells, List.getElem?_map, Option.map_eq_some_iff] at hv
    obtain ⟨x, hx, rfl⟩ := hv
    rw [Nat.add_assoc]
    exact hs.cell (o + j) x hx)
  rw [hl] at h
  exact h

theorem run_loadCells_gather {w : World} (h : MemOk B ng ρ m nx w) : ∀ (f k n : Nat) (l : List SegD), gather f m k n = some l →
    (∀ j v, (pcells ρ l)[j]? = some v → w.cell? ⟨(ρ k).blk, (ρ k).off + j, none⟩ = some v) ∧ plen l = n
  | 0, _, _, _, hg => by cases hg
  | f + 1, k, n, l, hg => by
    simp only [gather] at hg
    split at hg <;> first | (cases hg; done) | skip
    rename_i s hs
    have hsk := h.segs k s hs
    cases hgr : s.grow with
    | true => rw [hgr] at hg; cases hg
    | false =>
      rw [hgr, cond_false] at hg
      have hfix := hsk.fixed hgr
      have hcell : ∀ j v, (s.d.cells ρ)[j]? = some v → w.cell? ⟨(ρ k).blk, (ρ k).off + j, none⟩ = some v := by
        intro j v hv
        rw [SegD.cells, List.getElem?_map, Option.map_eq_some_iff] at hv
        obtain ⟨x, hx, rfl⟩ := hv
        exact hsk.cell j x hx
      cases hb : Nat.beq s.n n with
      | true =>
        rw [hb, cond_true] at hg
        cases hg
        refine ⟨fun j v hv => hcell j v (by simpa [pcells] using hv), ?_⟩
        simp only [plen, Nat.add_zero, hfix]
        exact Nat.eq_of_beq_eq_true hb
      | false =>
        rw [hb, cond_false] at hg
        cases hb2 : (Nat.blt s.n n && s.nxt) with
        | false => rw [hb2] at hg; cases hg
        | true =>
          rw [hb2, cond_true] at hg
          simp only [Bool.and_eq_true] at hb2
          split at hg <;> first | (cases hg; done) | skip
          rename_i r hr
          cases hg
          obtain ⟨i1, i2⟩ := run_loadCells_gather h f (k + 1) (n - s.n) r hr
          obtain ⟨e1, e2⟩ := hsk.next hb2.2
          have hlt := blt_iff.1 hb2.1
          refine ⟨fun j v hv => ?_, by simp only [plen, hfix, i2]; omega⟩
          simp only [pcells, List.flatMap_cons] at hv
          rcases Nat.lt_or_ge j s.d.len with hj | hj
          · rw [List.getElem?_append_left (by rw [cells_length]; exact hj)] at hv
            exact hcell j v hv
          · rw [List.getElem?_append_right (by rw [cells_length]; exact hj), cells_length] at hv
            have := i1 _ v hv
            rw [e1, e2] at this
            rw [show (ρ k).off + j = (ρ k).off + s.n + (j - s.d.len) by omega]
            exact this

theorem gather_wf (hwf : ∀ k s, find m k = some s → s.d.lt nx = true) : ∀ (f k n : Nat) (l : List SegD), gather f m k n = some l → l.all (SegD.lt nx) = true
  | 0, _, _, _, hg => by cases hg
  | f + 1, k, n, l, hg => by
    simp only [gather] at hg
    split at hg <;> first | (cases hg; done) | skip
    rename_i s hs
    cases hgr : s.grow with
    | true => rw [hgr] at hg; cases hg
    | false =>
      rw [hgr, cond_false] at hg
      cases hb : Nat.beq s.n n with
      | true => rw [hb, cond_true] at hg; cases hg; simp [hwf k s hs]
      | false =>
        rw [hb, cond_false] at hg
        cases hb2 : (Nat.blt s.n n && s.nxt) with
        | false => rw [hb2] at hg; cases hg
        | true =>
          rw [hb2, cond_true] at hg
          split at hg <;> first | (cases hg; done) | skip
          rename_i r hr
          cases hg
          simp [hwf k s hs, gather_wf hwf f (k + 1) _ r hr]

/-- an operation that reads: in every world of which the memory is known so, the same value, and the world is left as it is -/
def Reads (P : Program) (B ng : Nat) (ρ : Env) (m : Mem) (nx : Nat) (a : Act) (o : Oper) (v : SV) : Prop :=
  v.lt nx = true ∧ ∀ w, MemOk B ng ρ m nx w → (execOp a.eval o).run P w = .ok (.value (v.den ρ)) w

theorem TyOk.agg {ti : TyI} {ty : TypeId} (h : TyOk P ty ti) {b : Bool} (hb : isAg ti.d = some b) : ∃ d, P.underlying ty = some d ∧ aggB d = b := by
  have hd := h.desc
  cases hh : ti.d <;> rw [hh] at hb hd <;> simp only [isAg, Option.some.injEq, reduceCtorEq] at hb <;> subst hb
  all_goals first
    | exact ⟨_, hd, rfl⟩
    | exact ⟨_, hd.1, rfl⟩
    | (obtain ⟨F, hF, _⟩ := hd; exact ⟨_, hF, rfl⟩)
    | (obtain ⟨F, hF⟩ := hd; exact ⟨_, hF, rfl⟩)

theorem load_reads (hT : TysOk P cx.T) (ht : TmOk ρ t nx a) (hg : GlOk cx ρ nx) (hwf : ∀ k s, find m k = some s → s.d.lt nx = true) {ty : TypeId} {x : Operand} {v : SV} {ob : List Prop} {o : Oper} (ho : o.op = .load ty x)
    (h : loadM cx t m ty x = some (v, ob)) (hob : ∀ q ∈ ob, q) : Reads P B ng ρ m nx a o v := by
  unfold loadM at h
  split at h <;> first | (cases h; done) | skip
  rename_i ti k off hti hx
  have hok := hT ty ti hti
  obtain ⟨ex, lx⟩ := evs_den ht hg hx
  obtain ⟨inf, hinf, hsz, _⟩ := hok.size
  split at h <;> first | (cases h; done) | skip
  · rename_i s hag hs
    obtain ⟨d, hd1, hd2⟩ := hok.agg hag
    split at h <;> first | (cases h; done) | skip
    rename_i y ob' hy
    cases h
    have hy' := loadX_spec hy hob
    refine ⟨SegD.scs_lt (hwf k s hs) y (List.mem_of_getElem? hy'), fun w hw => ?_⟩
    have hc := (hw.segs k s hs).cell off y hy'
    simp [execOp, ho, ex, Sc.den, Instr.loadAt, Instr.sureAddr, loadVar, run_isAgg_of hd1, hd2, hc]
    rfl
  · rename_i s hag hs
    obtain ⟨d, hd1, hd2⟩ := hok.agg hag
    cases hz : Nat.beq ti.sz 0 with
    | true =>
      rw [hz, cond_true] at h
      cases h
      have hz' : inf.size = 0 := hsz.trans (Nat.eq_of_beq_eq_true hz)
      refine ⟨rfl, fun w hw => ?_⟩
      simp [execOp, ho, ex, Sc.den, Instr.loadAt, Instr.sureAddr, loadVar, run_isAgg_of hd1, hd2, run_sizeOf_of hinf, hz', loadCells, loadCellsFrom, SV.den, SV0.den]
    | false =>
      rw [hz, cond_false] at h
      cases hb : (Nat.beq off 0 && (bif s.grow then false else Nat.ble s.n ti.sz)) with
      | true =>
        rw [hb, cond_true] at h
        simp only [Bool.and_eq_true] at hb
        have h0 : off = 0 := Nat.eq_of_beq_eq_true hb.1
        subst h0
        split at h <;> first | (cases h; done) | skip
        rename_i l hl
        cases h
        refine ⟨gather_wf hwf _ _ _ _ hl, fun w hw => ?_⟩
        obtain ⟨g1, g2⟩ := run_loadCells_gather hw _ _ _ _ hl
        have hc := run_loadCells_list (P := P) w ⟨(ρ k).blk, (ρ k).off + 0, none⟩ (pcells ρ l) (fun j v hv => by rw [add_none, Nat.add_zero]; exact g1 j v hv)
        rw [pcells_length, g2] at hc
        simp only [execOp, ho, ex, Sc.den, Instr.loadAt, Instr.sureAddr, loadVar, Sem.run_bind, Sem.run_pure, Result.andThen_ok, run_isAgg_of hd1, hd2, if_true, run_sizeOf_of hinf, hsz, hc]
        rfl
      | false =>
        rw [hb, cond_false] at h
        obtain ⟨rfl, hn⟩ := need_spec h hob
        refine ⟨by simp [SV.lt, SV0.lt, SegD.sub_lt (hwf k s hs)], fun w hw => ?_⟩
        have hc := run_loadCells_seg (P := P) (hw.segs k s hs) hn
        simp [execOp, ho, ex, Sc.den, Instr.loadAt, Instr.sureAddr, loadVar, run_isAgg_of hd1, hd2, run_sizeOf_of hinf, hsz, hc, SV.den, SV0.den, SegD.cells, SegD.sub_scs, List.map_take, List.map_drop]
  · rename_i hag hs
    obtain ⟨d, hd1, hd2⟩ := hok.agg hag
    cases hz : Nat.beq ti.sz 0 with
    | false => rw [hz] at h; cases h
    | true =>
      rw [hz, cond_true] at h
      cases h
      have hz' : inf.size = 0 := hsz.trans (Nat.eq_of_beq_eq_true hz)
      refine ⟨rfl, fun w hw => ?_⟩
      simp [execOp, ho, ex, Sc.den, Instr.loadAt, Instr.sureAddr, loadVar, run_isAgg_of hd1, hd2, run_sizeOf_of hinf, hz', loadCells, loadCellsFrom, SV.den, SV0.den]

end

/-! ### Stores -/

def SegD.flatB : SegD → Bool
  | .dc l => l.all Sc.flat
  | _ => true

/-- several pieces laid over several keys -/
def scatter : Mem → Nat → List SegD → Option Mem
  | m, _, [] => some m
  | m, k, d :: r => match find m k with
    | some s => bif s.own && !s.grow && Nat.beq s.n d.len && Nat.blt 0 s.n && (bif s.nxt then true else r.isEmpty) then scatter (setM m k d) (k + 1) r else none
    | none => none

def storeM (cx : Cx) (t : TM) (m : Mem) (ty : TypeId) (x y : Operand) : Option (Mem × List Prop) :=
  match find cx.T ty, evs cx t x, ev cx t y with
  | some ti, some (.p k o), some (.one v) => bif Nat.beq v.len ti.sz && v.flat && Nat.blt 0 ti.sz then (match find m k, v with
      | some s, .s y => bif s.own then (match s.d.put o y, need cx (o + 1 ≤ bif s.grow then s.d.len else s.n) () with
          | some d, some (_, ob) => some (setM m k d, ob)
          | _, _ => none) else none
      | some s, .ag [e] => bif s.own then (bif Nat.beq o 0 && !s.grow && Nat.beq s.n ti.sz then some (setM m k e, []) else (match s.d.spl o e, need cx (o + e.len ≤ bif s.grow then s.d.len else s.n) () with
          | some d, some (_, ob) => some (setM m k d, ob)
          | _, _ => none)) else none
      | some _, .ag l => bif Nat.beq o 0 then (match scatter m k l with
          | some m' => some (m', [])
          | none => none) else none
      | none, _ => none) else none
  | _, _, _ => none

/-- an operation that writes: from every world of which the memory is known so, to one of which it is known otherwise -/
def Writes (P : Program) (B ng : Nat) (ρ : Env) (m : Mem) (nx : Nat) (a : Act) (o : Oper) (v : SV) (m' : Mem) (nx' : Nat) : Prop :=
  v.lt nx' = true ∧ ∀ w, MemOk B ng ρ m nx w → ∃ ρ' w', ((execOp a.eval o).run P w = .ok (.value (v.den ρ')) w' ∨ ((execOp a.eval o).run P w = .ok .skip w' ∧ v.den ρ' = undef)) ∧ PostM B ng ρ m nx w ρ' m' nx' w'

section
variable {P : Program} {cx : Cx} {B ng : Nat} {ρ : Env} {t : TM} {m : Mem} {nx : Nat} {a : Act}

/-- cells written into one piece of our own -/
theorem store_seg {w : World} (h : MemOk B ng ρ m nx w) {k : Nat} {s : Seg} (hk : find m k = some s) (ho : s.own = true) {o : Nat} {vs : List Value} {d : SegD}
    (hn : o + vs.length ≤ s.d.len) (hzv : s.grow = true → d.zv = s.d.zv) (hl : d.len = s.d.len) (hlt : d.lt nx = true) (h1 : ∀ v ∈ vs, v.oneCell' = true) (hd : d.cells ρ = splice (s.d.cells ρ) o vs) :
    ∃ w', (storeCells ⟨(ρ k).blk, (ρ k).off + o, none⟩ vs).run P w = .ok () w' ∧ PostM B ng ρ m nx w ρ (setM m k d) nx w' := by
  have hs := h.segs k s hk
  have hext : s.d.len ≤ s.ext ρ k := by have := hs.len_le_reach; simpa [Seg.reach, ho] using this
  obtain ⟨w', r1, r2⟩ := storeCells_wr P vs 0 w (ρ k).blk ((ρ k).off + o) (fun j hj => by
    have := hs.room ho (o + j) (by omega)
    rw [show (ρ k).off + (o + j) = (ρ k).off + o + 0 + j by omega] at this
    exact this) h1
  rw [Nat.add_zero] at r2
  have hcl : (s.d.cells ρ).length = s.d.len := cells_length ρ s.d
  have h0 : 0 < vs.length ∨ w' = w := by
    cases vs with
    | nil => right; simp only [storeCells, Sem.run_pure, Result.ok.injEq] at r1; exact r1.2.symm
    | cons v vs => left; simp
  refine ⟨w', r1, PostM.write h hk ho h0 (by omega) hn hzv hl.symm r2 hlt (fun j x hx hj => ?_) (fun j x hx hj => ?_)⟩
  · have e1 : (d.cells ρ)[o + j]? = some (x.den ρ) := by rw [SegD.cells, List.getElem?_map, hx]; rfl
    rw [hd, splice_get_in _ _ _ (by omega) j hj] at e1
    simp [e1]
  · have e1 : (d.cells ρ)[j]? = some (x.den ρ) := by rw [SegD.cells, List.getElem?_map, hx]; rfl
    rw [hd, splice_get_out _ _ _ (by omega) j hj] at e1
    exact e1

theorem storeCells_shift (b o i : Nat) : ∀ (ys : List Value) (j : Nat), storeCells ⟨b, o + i, none⟩ ys j = storeCells ⟨b, o, none⟩ ys (i + j)
  | [], j => rfl
  | y :: ys, j => by
    have ih := storeCells_shift b o i ys (j + 1)
    simp only [storeCells, add_none, Nat.add_assoc, ih]

theorem storeCells_append (b o : Nat) : ∀ (xs ys : List Value) (i : Nat) (w : World), (storeCells ⟨b, o, none⟩ (xs ++ ys) i).run P w = ((storeCells ⟨b, o, none⟩ xs i).run P w).andThen fun _ w' => (storeCells ⟨b, o + (i + xs.length), none⟩ ys 0).run P w'
  | [], ys, i, w => by
    simp only [List.nil_append, storeCells, Sem.run_pure, Result.andThen_ok, List.length_nil, Nat.add_zero]
    rw [storeCells_shift b o i ys 0, Nat.add_zero]
  | x :: xs, ys, i, w => by
    simp only [List.cons_append, storeCells, Sem.run_bind]
    cases hr : (store ((⟨b, o, none⟩ : Addr).add i) x).run P w with
    | halt e w' => rfl
    | ok u w' =>
      simp only [Result.andThen_ok]
      rw [storeCells_append b o xs ys (i + 1) w', List.length_cons, show i + 1 + xs.length = i + (xs.length + 1) by omega]

/-- several pieces written one behind the other -/
theorem store_scatter : ∀ (l : List SegD) (m : Mem) (k : Nat) (m' : Mem) (w : World), MemOk B ng ρ m nx w → scatter m k l = some m' → l.all (SegD.lt nx) = true →
    (∀ v ∈ pcells ρ l, v.oneCell' = true) → l ≠ [] →
    ∃ w', (storeCells ⟨(ρ k).blk, (ρ k).off, none⟩ (pcells ρ l)).run P w = .ok () w' ∧ PostM B ng ρ m nx w ρ m' nx w'
  | [], _, _, _, _, _, _, _, _, hne => absurd rfl hne
  | d :: r, m, k, m', w, h, hs, hlt, h1, _ => by
    simp only [scatter] at hs
    split at hs <;> first | (cases hs; done) | skip
    rename_i s hk
    cases hb : (s.own && !s.grow && Nat.beq s.n d.len && Nat.blt 0 s.n && (bif s.nxt then true else r.isEmpty)) with
    | false => rw [hb] at hs; cases hs
    | true =>
      rw [hb, cond_true] at hs
      simp only [Bool.and_eq_true, Bool.not_eq_true'] at hb
      obtain ⟨⟨⟨⟨b1, b2⟩, b3⟩, b4⟩, b5⟩ := hb
      simp only [List.all_cons, Bool.and_eq_true] at hlt
      have hsk := h.segs k s hk
      have hfix := hsk.fixed b2
      have hn : s.n = d.len := Nat.eq_of_beq_eq_true b3
      have hpos := blt_iff.1 b4
      have hcl : (d.cells ρ).length = d.len := cells_length ρ d
      have hcl0 : (s.d.cells ρ).length = s.d.len := cells_length ρ s.d
      have hd1 : ∀ v ∈ d.cells ρ, v.oneCell' = true := fun v hv => h1 v (by simp [pcells]; exact .inl hv)
      obtain ⟨w1, r1, p1⟩ := store_seg (P := P) (o := 0) h hk b1 (vs := d.cells ρ) (d := d) (by omega) (fun hgr => by rw [b2] at hgr; cases hgr) (by omega) hlt.1 hd1 (by
        simp [splice, hcl]
        omega)
      rw [Nat.add_zero] at r1
      cases r with
      | nil =>
        cases hs
        exact ⟨w1, by simpa [pcells] using r1, p1⟩
      | cons d2 r2 =>
        have hnx : s.nxt = true := by cases hh : s.nxt with
          | true => rfl
          | false => rw [hh] at b5; simp at b5
        obtain ⟨e1, e2⟩ := hsk.next hnx
        obtain ⟨w2, r3, p2⟩ := store_scatter (d2 :: r2) (setM m k d) (k + 1) m' w1 p1.ok hs hlt.2 (fun v hv => h1 v (by simp only [pcells, List.flatMap_cons, List.mem_append] at hv ⊢; exact .inr hv)) (by simp)
        refine ⟨w2, ?_, p1.trans p2⟩
        rw [e1, e2] at r3
        have hpc : pcells ρ (d :: d2 :: r2) = d.cells ρ ++ pcells ρ (d2 :: r2) := by simp [pcells]
        rw [hpc, storeCells_append, r1, Result.andThen_ok, Nat.zero_add, hcl, ← hn]
        exact r3

theorem bifn {b : Bool} {s : Seg} : (bif b then s.d.len else s.n) = if b then s.d.len else s.n := by cases b <;> rfl

theorem store_writes (hT : TysOk P cx.T) (ht : TmOk ρ t nx a) (hg : GlOk cx ρ nx) {ty : TypeId} {x y : Operand} {m' : Mem} {ob : List Prop} {o : Oper} (ho : o.op = .store ty x y)
    (h : storeM cx t m ty x y = some (m', ob)) (hob : ∀ q ∈ ob, q) : Writes P B ng ρ m nx a o undefS m' nx := by
  unfold storeM at h
  split at h <;> first | (cases h; done) | skip
  rename_i ti k off v hti hx hy
  have hok := hT ty ti hti
  obtain ⟨ex, lx⟩ := evs_den ht hg hx
  obtain ⟨ey, ly⟩ := ev_den ht hg hy
  obtain ⟨inf, hinf, hsz, _⟩ := hok.size
  cases hb : (Nat.beq v.len ti.sz && v.flat && Nat.blt 0 ti.sz) with
  | false => rw [hb] at h; cases h
  | true =>
    rw [hb, cond_true] at h
    simp only [Bool.and_eq_true] at hb
    obtain ⟨⟨hvl0, hvf⟩, hpos0⟩ := hb
    have hvl := Nat.eq_of_beq_eq_true hvl0
    have hpos := blt_iff.1 hpos0
    clear hvl0 hpos0
    have ey' : a.eval y = v.den ρ := ey
    have ly' : v.lt nx = true := ly
    have hcells : (v.den ρ).cells.toList = v.cellsOf ρ := SV0.cells_den hvf ρ
    have hlen : (v.cellsOf ρ).length = ti.sz := by rw [SV0.cellsOf_length, hvl]
    have hone := SV0.one hvf ρ
    have hcsz : (v.den ρ).cells.size = inf.size := by rw [← Array.length_toList, hcells, hlen, hsz]
    have fin : ∀ (w w' : World) (md : Mem), (storeCells ⟨(ρ k).blk, (ρ k).off + off, none⟩ (v.cellsOf ρ)).run P w = .ok () w' → PostM B ng ρ m nx w ρ md nx w' →
        ∃ ρ' w', ((execOp a.eval o).run P w = .ok (.value (undefS.den ρ')) w' ∨ ((execOp a.eval o).run P w = .ok .skip w' ∧ undefS.den ρ' = undef)) ∧ PostM B ng ρ m nx w ρ' md nx w' := by
      intro w w' md r p
      refine ⟨ρ, w', .inr ⟨?_, rfl⟩, p⟩
      simp [execOp, ho, ex, ey', Sc.den, Instr.storeAt, Instr.sureAddr, storeVar, run_sizeOf_of hinf, hcsz, hcells, r]
    split at h <;> first | (cases h; done) | skip
    · rename_i s y' hs
      cases hown : s.own with
      | false => rw [hown] at h; cases h
      | true =>
        rw [hown, cond_true] at h
        split at h <;> first | (cases h; done) | skip
        rename_i d _ ob' hd hn
        cases h
        obtain ⟨_, hn'⟩ := need_spec hn hob
        obtain ⟨p1, p2, p3⟩ := SegD.put_spec hd
        refine ⟨rfl, fun w hw => ?_⟩
        have hsk := hw.segs k s hs
        have hle : off + 1 ≤ s.d.len := by
          cases hgr : s.grow with
          | true => rw [hgr] at hn'; exact hn'
          | false => rw [hgr] at hn'; rw [hsk.fixed hgr]; exact hn'
        obtain ⟨w', r, p⟩ := store_seg (P := P) hw hs hown (o := off) (vs := (SV0.s y').cellsOf ρ) (d := d) (by simp [SV0.cellsOf]; omega) (fun _ => SegD.put_zv hd) p2 (p3 nx (hw.wf k s hs).1 ly') hone (by
          rw [SegD.cells, p1, List.map_set, set_eq_splice _ _ _ (by rw [List.length_map, scs_length]; omega)]; rfl)
        exact fin w w' _ r p
    · rename_i s e hs
      cases hown : s.own with
      | false => rw [hown] at h; cases h
      | true =>
        rw [hown, cond_true] at h
        have hel : e.len = ti.sz := by simpa [SV0.len, plen] using hvl
        have hec : (SV0.ag [e]).cellsOf ρ = e.cells ρ := by simp [SV0.cellsOf, pcells]
        have hecl : (e.cells ρ).length = e.len := cells_length ρ e
        have elt : e.lt nx = true := by simpa [SV0.lt] using ly'
        cases hc : (Nat.beq off 0 && !s.grow && Nat.beq s.n ti.sz) with
        | true =>
          rw [hc, cond_true] at h
          cases h
          simp only [Bool.and_eq_true, Bool.not_eq_true'] at hc
          obtain ⟨⟨c1, c2⟩, c3⟩ := hc
          have h0 : off = 0 := Nat.eq_of_beq_eq_true c1
          have hn0 : s.n = ti.sz := Nat.eq_of_beq_eq_true c3
          refine ⟨rfl, fun w hw => ?_⟩
          have hfix := (hw.segs k s hs).fixed c2
          have hscl : (s.d.cells ρ).length = s.d.len := cells_length ρ s.d
          obtain ⟨w', r, p⟩ := store_seg (P := P) hw hs hown (o := off) (vs := (SV0.ag [e]).cellsOf ρ) (d := e) (by rw [hec]; omega) (fun hgr => by rw [c2] at hgr; cases hgr) (by omega) elt hone (by
            rw [hec, h0]; simp [splice, hecl]; omega)
          exact fin w w' _ r p
        | false =>
          rw [hc, cond_false] at h
          split at h <;> first | (cases h; done) | skip
          rename_i d _ ob' hd hn
          cases h
          obtain ⟨_, hn'⟩ := need_spec hn hob
          obtain ⟨p1, p2, p3⟩ := SegD.spl_spec hd
          refine ⟨rfl, fun w hw => ?_⟩
          have hsk := hw.segs k s hs
          have hle : off + e.len ≤ s.d.len := by
            cases hgr : s.grow with
            | true => rw [hgr] at hn'; exact hn'
            | false => rw [hgr] at hn'; rw [hsk.fixed hgr]; exact hn'
          obtain ⟨w', r, p⟩ := store_seg (P := P) hw hs hown (o := off) (vs := (SV0.ag [e]).cellsOf ρ) (d := d) (by rw [hec]; omega) (fun _ => SegD.spl_zv hd) (p2 hle) (p3 nx (hw.wf k s hs).1 elt) hone (by
            rw [hec, SegD.cells, p1, splice_map]; rfl)
          exact fin w w' _ r p
    · rename_i s l _ hs
      cases hc : Nat.beq off 0 with
      | false => rw [hc] at h; cases h
      | true =>
        rw [hc, cond_true] at h
        have h0 : off = 0 := Nat.eq_of_beq_eq_true hc
        split at h <;> first | (cases h; done) | skip
        rename_i m2 hm2
        cases h
        refine ⟨rfl, fun w hw => ?_⟩
        have hne : l ≠ [] := fun e => by subst e; simp [SV0.len, plen] at hvl; omega
        obtain ⟨w', r, p⟩ := store_scatter (P := P) (B := B) (ng := ng) l m k _ w hw hm2 ly' hone hne
        exact fin w w' _ (by rw [h0, Nat.add_zero]; exact r) p

end
end Go.Sx
