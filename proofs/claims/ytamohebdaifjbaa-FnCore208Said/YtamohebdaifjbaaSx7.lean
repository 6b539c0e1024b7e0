/- Symbolic operations on memory: loads, stores, new variables; and their soundness. Symbolic operations that make memory: new variables, boxes, slices; and their soundness. Symbolic copies, views of slices, texts of bytes; and their soundness. Conditions: none; plain definitions and theorems over any program. -/
import Derived.Test.YtamohebdaifjbaaSx6
set_option linter.unusedVariables false
namespace Go.Sx
open Go.RowKit

def undefS : SV := .one (.s (.v undef))

theorem storeCells_wr (P : Program) : ∀ (vs : List Value) (i : Nat) (w : World) (b o : Nat),
    (∀ j, j < vs.length → w.frozen? ⟨b, o + i + j, none⟩ = false ∧ ∃ u, w.cell? ⟨b, o + i + j, none⟩ = some u) → (∀ v ∈ vs, v.oneCell' = true) →
    ∃ w', (storeCells ⟨b, o, none⟩ vs i).run P w = .ok () w' ∧ Wr w w' b (o + i) vs.length (fun j => vs.getD j undef)
  | [], i, w, b, o, _, _ => ⟨w, by simp [storeCells], Wr.zero _ _ _ _⟩
  | v :: vs, i, w, b, o, hc, h1 => by
    obtain ⟨f0, u, c0⟩ := hc 0 (by simp)
    rw [Nat.add_zero] at f0 c0
    have hs : (store ⟨b, o + i, none⟩ v).run P w = .ok () (w.setCell ⟨b, o + i, none⟩ v) := by
      rw [run_store P w _ v _ (h1 v (by simp)), c0]
      simp [f0]
    have hW := Wr.one c0 v
    have hne : ∀ j, j < vs.length → (⟨b, o + i, none⟩ : Addr) ≠ ⟨b, o + (i + 1) + j, none⟩ := fun j _ e => by injection e with e1 e2; omega
    obtain ⟨w', r1, r2⟩ := storeCells_wr P vs (i + 1) (w.setCell ⟨b, o + i, none⟩ v) b o (fun j hj => by
      obtain ⟨f, u', c⟩ := hc (j + 1) (by simp; omega)
      rw [show o + i + (j + 1) = o + (i + 1) + j by omega] at f c
      refine ⟨by rw [World.frozen?_setCell]; exact f, u', ?_⟩
      rw [World.cell?_setCell_other _ _ _ _ (hne j hj)]; exact c) (fun x hx => h1 x (by simp [hx]))
    refine ⟨w', ?_, ?_⟩
    · simp only [storeCells, Sem.run_bind, add_none, hs, Result.andThen_ok]
      exact r1
    · have := Wr.cons hW (by rw [show o + i + 1 = o + (i + 1) by omega]; exact r2)
      rw [List.length_cons]
      have e : (fun j => if j = 0 then v else (fun j => vs.getD j undef) (j - 1)) = fun j => (v :: vs).getD j undef := by
        funext j
        cases j with
        | zero => rfl
        | succ j => simp
      rw [e] at this
      exact this

inductive K4 where
  | pure
  | read
  | new (L : List Seg)
  | eff

/-- what an operation comes to: its value, the memory, the next free key, of which kind it is, and what is owed -/
structure Ef where
  v : SV
  m : Mem
  nx : Nat
  c : K4
  ob : List Prop

def isAg : Ty → Option Bool
  | .arr _ _ _ _ => some true
  | .st _ => some true
  | .oth => none
  | _ => some false

/-- the pieces that make n cells, from key k on -/
def gather : Nat → Mem → Nat → Nat → Option (List SegD)
  | 0, _, _, _ => none
  | f + 1, m, k, n => match find m k with
    | some s => bif s.grow then none else (bif Nat.beq s.n n then some [s.d] else (bif Nat.blt s.n n && s.nxt then (match gather f m (k + 1) (n - s.n) with
        | some r => some (s.d :: r)
        | none => none) else none))
    | none => none

def loadM (cx : Cx) (t : TM) (m : Mem) (ty : TypeId) (x : Operand) : Option (SV × List Prop) :=
  match find cx.T ty, evs cx t x with
  | some ti, some (.p k o) => match isAg ti.d, find m k with
    | some false, some s => match loadX cx s.d o with
      | some (v, ob) => some (.one (.s v), ob)
      | none => none
    | some true, some s => bif Nat.beq ti.sz 0 then some (.one (.ag []), []) else (bif Nat.beq o 0 && (bif s.grow then false else Nat.ble s.n ti.sz) then (match gather 8 m k ti.sz with
        | some l => some (.one (.ag l), [])
        | none => none) else need cx (o + ti.sz ≤ s.d.len) (.one (.ag [s.d.sub o ti.sz])))
    | some true, none => bif Nat.beq ti.sz 0 then some (.one (.ag []), []) else none
    | _, _ => none
  | _, _ => none

section
variable {P : Program} {cx : Cx} {B ng : Nat} {ρ : Env} {t : TM} {m : Mem} {nx : Nat} {a : Act}

theorem run_loadCells_seg {k : Nat} {s : Seg} {w : World} (hs : SegOk B ρ k s w) {o n : Nat} (hn : o + n ≤ s.d.len) :
    (loadCells ⟨(ρ k).blk, (ρ k).off + o, none⟩ n).run P w = .ok (((s.d.cells ρ).drop o).take n).toArray w := by
  have hl : (((s.d.cells ρ).drop o).take n).length = n := by simp [cells_length]; omega
  have h := run_loadCells_list (P := P) w ⟨(ρ k).blk, (ρ k).off + o, none⟩ (((s.d.cells ρ).drop o).take n) (fun j v hv => by
    rw [add_none]
    have hj : j < n := by have := (List.getElem?_eq_some_iff.1 hv).1; omega
    rw [List.getElem?_take_of_lt hj, List.getElem?_drop, SegD.cells, List.getElem?_map, Option.map_eq_some_iff] at hv
    obtain ⟨x, hx, rfl⟩ := hv
    rw [Nat.add_assoc]
    exact hs.cell (o + j) x hx)
  rw [hl] at h
  exact h

theorem run_loadCells_gather {w : World} (h : MemOk B ng ρ m nx w) : ∀ (f k n : Nat) (l : List SegD), gather f m k n = some l →
    (∀ j v, (pcells ρ l)[j]? = some v → w.cell? ⟨(ρ k).blk, (ρ k).off + j, none⟩ = some v) ∧ plen l = n
  | 0, _, _, _, hg => by cases hg
  | f + 1, k, n, l, hg => by
    simp only [gather] at hg
    split at hg <;> first | (cases hg; done) | skip
    rename_i s hs
    have hsk := h.segs k s hs
    cases hgr : s.grow with
    | true => rw [hgr] at hg; cases hg
    | false =>
      rw [hgr, cond_false] at hg
      have hfix := hsk.fixed hgr
      have hcell : ∀ j v, (s.d.cells ρ)[j]? = some v → w.cell? ⟨(ρ k).blk, (ρ k).off + j, none⟩ = some v := by
        intro j v hv
        rw [SegD.cells, List.getElem?_map, Option.map_eq_some_iff] at hv
        obtain ⟨x, hx, rfl⟩ := hv
        exact hsk.cell j x hx
      cases hb : Nat.beq s.n n with
      | true =>
        rw [hb, cond_true] at hg
        cases hg
        refine ⟨fun j v hv => hcell j v (by simpa [pcells] using hv), ?_⟩
        simp only [plen, Nat.add_zero, hfix]
        exact Nat.eq_of_beq_eq_true hb
      | false =>
        rw [hb, cond_false] at hg
        cases hb2 : (Nat.blt s.n n && s.nxt) with
        | false => rw [hb2] at hg; cases hg
        | true =>
          rw [hb2, cond_true] at hg
          simp only [Bool.and_eq_true] at hb2
          split at hg <;> first | (cases hg; done) | skip
          rename_i r hr
          cases hg
          obtain ⟨i1, i2⟩ := run_loadCells_gather h f (k + 1) (n - s.n) r hr
          obtain ⟨e1, e2⟩ := hsk.next hb2.2
          have hlt := blt_iff.1 hb2.1
          refine ⟨fun j v hv => ?_, by simp only [plen, hfix, i2]; omega⟩
          simp only [pcells, List.flatMap_cons] at hv
          rcases Nat.lt_or_ge j s.d.len with hj | hj
          · rw [List.getElem?_append_left (by rw [cells_length]; exact hj)] at hv
            exact hcell j v hv
          · rw [List.getElem?_append_right (by rw [cells_length]; exact hj), cells_length] at hv
            have := i1 _ v hv
            rw [e1, e2] at this
            rw [show (ρ k).off + j = (ρ k).off + s.n + (j - s.d.len) by omega]
            exact this

theorem gather_wf (hwf : ∀ k s, find m k = some s → s.d.lt nx = true) : ∀ (f k n : Nat) (l : List SegD), gather f m k n = some l → l.all (SegD.lt nx) = true
  | 0, _, _, _, hg => by cases hg
  | f + 1, k, n, l, hg => by
    simp only [gather] at hg
    split at hg <;> first | (cases hg; done) | skip
    rename_i s hs
    cases hgr : s.grow with
    | true => rw [hgr] at hg; cases hg
    | false =>
      rw [hgr, cond_false] at hg
      cases hb : Nat.beq s.n n with
      | true => rw [hb, cond_true] at hg; cases hg; simp [hwf k s hs]
      | false =>
        rw [hb, cond_false] at hg
        cases hb2 : (Nat.blt s.n n && s.nxt) with
        | false => rw [hb2] at hg; cases hg
        | true =>
          rw [hb2, cond_true] at hg
          split at hg <;> first | (cases hg; done) | skip
          rename_i r hr
          cases hg
          simp [hwf k s hs, gather_wf hwf f (k + 1) _ r hr]

/-- an operation that reads: in every world of which the memory is known so, the same value, and the world is left as it is -/
def Reads (P : Program) (B ng : Nat) (ρ : Env) (m : Mem) (nx : Nat) (a : Act) (o : Oper) (v : SV) : Prop :=
  v.lt nx = true ∧ ∀ w, MemOk B ng ρ m nx w → (execOp a.eval o).run P w = .ok (.value (v.den ρ)) w

theorem TyOk.agg {ti : TyI} {ty : TypeId} (h : TyOk P ty ti) {b : Bool} (hb : isAg ti.d = some b) : ∃ d, P.underlying ty = some d ∧ aggB d = b := by
  have hd := h.desc
  cases hh : ti.d <;> rw [hh] at hb hd <;> simp only [isAg, Option.some.injEq, reduceCtorEq] at hb <;> subst hb
  all_goals first
    | exact ⟨_, hd, rfl⟩
    | exact ⟨_, hd.1, rfl⟩
    | (obtain ⟨F, hF, _⟩ := hd; exact ⟨_, hF, rfl⟩)
    | (obtain ⟨F, hF⟩ := hd; exact ⟨_, hF, rfl⟩)
    | (obtain ⟨e, i, r, hF, _⟩ := hd; exact ⟨_, hF, rfl⟩)

theorem load_reads (hT : TysOk P cx.T) (ht : TmOk ρ t nx a) (hg : GlOk cx ρ nx) (hwf : ∀ k s, find m k = some s → s.d.lt nx = true) {ty : TypeId} {x : Operand} {v : SV} {ob : List Prop} {o : Oper} (ho : o.op = .load ty x)
    (h : loadM cx t m ty x = some (v, ob)) (hob : ∀ q ∈ ob, q) : Reads P B ng ρ m nx a o v := by
  unfold loadM at h
  split at h <;> first | (cases h; done) | skip
  rename_i ti k off hti hx
  have hok := hT ty ti hti
  obtain ⟨ex, lx⟩ := evs_den ht hg hx
  obtain ⟨inf, hinf, hsz, _⟩ := hok.size
  split at h <;> first | (cases h; done) | skip
  · rename_i s hag hs
    obtain ⟨d, hd1, hd2⟩ := hok.agg hag
    split at h <;> first | (cases h; done) | skip
    rename_i y ob' hy
    cases h
    have hy' := loadX_spec hy hob
    refine ⟨SegD.scs_lt (hwf k s hs) y (List.mem_of_getElem? hy'), fun w hw => ?_⟩
    have hc := (hw.segs k s hs).cell off y hy'
    simp [execOp, ho, ex, Sc.den, Instr.loadAt, Instr.sureAddr, loadVar, run_isAgg_of hd1, hd2, hc]
    rfl
  · rename_i s hag hs
    obtain ⟨d, hd1, hd2⟩ := hok.agg hag
    cases hz : Nat.beq ti.sz 0 with
    | true =>
      rw [hz, cond_true] at h
      cases h
      have hz' : inf.size = 0 := hsz.trans (Nat.eq_of_beq_eq_true hz)
      refine ⟨rfl, fun w hw => ?_⟩
      simp [execOp, ho, ex, Sc.den, Instr.loadAt, Instr.sureAddr, loadVar, run_isAgg_of hd1, hd2, run_sizeOf_of hinf, hz', loadCells, loadCellsFrom, SV.den, SV0.den]
    | false =>
      rw [hz, cond_false] at h
      cases hb : (Nat.beq off 0 && (bif s.grow then false else Nat.ble s.n ti.sz)) with
      | true =>
        rw [hb, cond_true] at h
        simp only [Bool.and_eq_true] at hb
        have h0 : off = 0 := Nat.eq_of_beq_eq_true hb.1
        subst h0
        split at h <;> first | (cases h; done) | skip
        rename_i l hl
        cases h
        refine ⟨gather_wf hwf _ _ _ _ hl, fun w hw => ?_⟩
        obtain ⟨g1, g2⟩ := run_loadCells_gather hw _ _ _ _ hl
        have hc := run_loadCells_list (P := P) w ⟨(ρ k).blk, (ρ k).off + 0, none⟩ (pcells ρ l) (fun j v hv => by rw [add_none, Nat.add_zero]; exact g1 j v hv)
        rw [pcells_length, g2] at hc
        simp only [execOp, ho, ex, Sc.den, Instr.loadAt, Instr.sureAddr, loadVar, Sem.run_bind, Sem.run_pure, Result.andThen_ok, run_isAgg_of hd1, hd2, if_true, run_sizeOf_of hinf, hsz, hc]
        rfl
      | false =>
        rw [hb, cond_false] at h
        obtain ⟨rfl, hn⟩ := need_spec h hob
        refine ⟨by simp [SV.lt, SV0.lt, SegD.sub_lt (hwf k s hs)], fun w hw => ?_⟩
        have hc := run_loadCells_seg (P := P) (hw.segs k s hs) hn
        simp [execOp, ho, ex, Sc.den, Instr.loadAt, Instr.sureAddr, loadVar, run_isAgg_of hd1, hd2, run_sizeOf_of hinf, hsz, hc, SV.den, SV0.den, SegD.cells, SegD.sub_scs, List.map_take, List.map_drop]
  · rename_i hag hs
    obtain ⟨d, hd1, hd2⟩ := hok.agg hag
    cases hz : Nat.beq ti.sz 0 with
    | false => rw [hz] at h; cases h
    | true =>
      rw [hz, cond_true] at h
      cases h
      have hz' : inf.size = 0 := hsz.trans (Nat.eq_of_beq_eq_true hz)
      refine ⟨rfl, fun w hw => ?_⟩
      simp [execOp, ho, ex, Sc.den, Instr.loadAt, Instr.sureAddr, loadVar, run_isAgg_of hd1, hd2, run_sizeOf_of hinf, hz', loadCells, loadCellsFrom, SV.den, SV0.den]

end

/-! ### Stores -/

def SegD.flatB : SegD → Bool
  | .dc l => l.all Sc.flat
  | _ => true

/-- several pieces laid over several keys -/
def scatter : Mem → Nat → List SegD → Option Mem
  | m, _, [] => some m
  | m, k, d :: r => match find m k with
    | some s => bif s.own && !s.grow && Nat.beq s.n d.len && Nat.blt 0 s.n && (bif s.nxt then true else r.isEmpty) then scatter (setM m k d) (k + 1) r else none
    | none => none

def storeM (cx : Cx) (t : TM) (m : Mem) (ty : TypeId) (x y : Operand) : Option (Mem × List Prop) :=
  match find cx.T ty, evs cx t x, ev cx t y with
  | some ti, some (.p k o), some (.one v) => bif Nat.beq v.len ti.sz && v.flat && Nat.blt 0 ti.sz then (match find m k, v with
      | some s, .s y => bif s.own then (match s.d.put o y, need cx (o + 1 ≤ bif s.grow then s.d.len else s.n) () with
          | some d, some (_, ob) => some (setM m k d, ob)
          | _, _ => none) else none
      | some s, .ag [e] => bif s.own then (bif Nat.beq o 0 && !s.grow && Nat.beq s.n ti.sz then some (setM m k e, []) else (match s.d.spl o e, need cx (o + e.len ≤ bif s.grow then s.d.len else s.n) () with
          | some d, some (_, ob) => some (setM m k d, ob)
          | _, _ => none)) else none
      | some _, .ag l => bif Nat.beq o 0 then (match scatter m k l with
          | some m' => some (m', [])
          | none => none) else none
      | none, _ => none) else none
  | _, _, _ => none

/-- an operation that writes: from every world of which the memory is known so, to one of which it is known otherwise -/
def Writes (P : Program) (B ng : Nat) (ρ : Env) (m : Mem) (nx : Nat) (a : Act) (o : Oper) (v : SV) (m' : Mem) (nx' : Nat) : Prop :=
  v.lt nx' = true ∧ ∀ w, MemOk B ng ρ m nx w → ∃ ρ' w', ((execOp a.eval o).run P w = .ok (.value (v.den ρ')) w' ∨ ((execOp a.eval o).run P w = .ok .skip w' ∧ v.den ρ' = undef)) ∧ PostM B ng ρ m nx w ρ' m' nx' w'

section
variable {P : Program} {cx : Cx} {B ng : Nat} {ρ : Env} {t : TM} {m : Mem} {nx : Nat} {a : Act}

/-- cells written into one piece of our own -/
theorem store_seg {w : World} (h : MemOk B ng ρ m nx w) {k : Nat} {s : Seg} (hk : find m k = some s) (ho : s.own = true) {o : Nat} {vs : List Value} {d : SegD}
    (hn : o + vs.length ≤ s.d.len) (hzv : s.grow = true → d.zv = s.d.zv) (hl : d.len = s.d.len) (hlt : d.lt nx = true) (h1 : ∀ v ∈ vs, v.oneCell' = true) (hd : d.cells ρ = splice (s.d.cells ρ) o vs) :
    ∃ w', (storeCells ⟨(ρ k).blk, (ρ k).off + o, none⟩ vs).run P w = .ok () w' ∧ PostM B ng ρ m nx w ρ (setM m k d) nx w' := by
  have hs := h.segs k s hk
  have hext : s.d.len ≤ s.ext ρ k := by have := hs.len_le_reach; simpa [Seg.reach, ho] using this
  obtain ⟨w', r1, r2⟩ := storeCells_wr P vs 0 w (ρ k).blk ((ρ k).off + o) (fun j hj => by
    have := hs.room ho (o + j) (by omega)
    rw [show (ρ k).off + (o + j) = (ρ k).off + o + 0 + j by omega] at this
    exact this) h1
  rw [Nat.add_zero] at r2
  have hcl : (s.d.cells ρ).length = s.d.len := cells_length ρ s.d
  have h0 : 0 < vs.length ∨ w' = w := by
    cases vs with
    | nil => right; simp only [storeCells, Sem.run_pure, Result.ok.injEq] at r1; exact r1.2.symm
    | cons v vs => left; simp
  refine ⟨w', r1, PostM.write h hk ho h0 (by omega) hn hzv hl.symm r2 hlt (fun j x hx hj => ?_) (fun j x hx hj => ?_)⟩
  · have e1 : (d.cells ρ)[o + j]? = some (x.den ρ) := by rw [SegD.cells, List.getElem?_map, hx]; rfl
    rw [hd, splice_get_in _ _ _ (by omega) j hj] at e1
    simp [e1]
  · have e1 : (d.cells ρ)[j]? = some (x.den ρ) := by rw [SegD.cells, List.getElem?_map, hx]; rfl
    rw [hd, splice_get_out _ _ _ (by omega) j hj] at e1
    exact e1

theorem storeCells_shift (b o i : Nat) : ∀ (ys : List Value) (j : Nat), storeCells ⟨b, o + i, none⟩ ys j = storeCells ⟨b, o, none⟩ ys (i + j)
  | [], j => rfl
  | y :: ys, j => by
    have ih := storeCells_shift b o i ys (j + 1)
    simp only [storeCells, add_none, Nat.add_assoc, ih]

theorem storeCells_append (b o : Nat) : ∀ (xs ys : List Value) (i : Nat) (w : World), (storeCells ⟨b, o, none⟩ (xs ++ ys) i).run P w = ((storeCells ⟨b, o, none⟩ xs i).run P w).andThen fun _ w' => (storeCells ⟨b, o + (i + xs.length), none⟩ ys 0).run P w'
  | [], ys, i, w => by
    simp only [List.nil_append, storeCells, Sem.run_pure, Result.andThen_ok, List.length_nil, Nat.add_zero]
    rw [storeCells_shift b o i ys 0, Nat.add_zero]
  | x :: xs, ys, i, w => by
    simp only [List.cons_append, storeCells, Sem.run_bind]
    cases hr : (store ((⟨b, o, none⟩ : Addr).add i) x).run P w with
    | halt e w' => rfl
    | ok u w' =>
      simp only [Result.andThen_ok]
      rw [storeCells_append b o xs ys (i + 1) w', List.length_cons, show i + 1 + xs.length = i + (xs.length + 1) by omega]

/-- several pieces written one behind the other -/
theorem store_scatter : ∀ (l : List SegD) (m : Mem) (k : Nat) (m' : Mem) (w : World), MemOk B ng ρ m nx w → scatter m k l = some m' → l.all (SegD.lt nx) = true →
    (∀ v ∈ pcells ρ l, v.oneCell' = true) → l ≠ [] →
    ∃ w', (storeCells ⟨(ρ k).blk, (ρ k).off, none⟩ (pcells ρ l)).run P w = .ok () w' ∧ PostM B ng ρ m nx w ρ m' nx w'
  | [], _, _, _, _, _, _, _, _, hne => absurd rfl hne
  | d :: r, m, k, m', w, h, hs, hlt, h1, _ => by
    simp only [scatter] at hs
    split at hs <;> first | (cases hs; done) | skip
    rename_i s hk
    cases hb : (s.own && !s.grow && Nat.beq s.n d.len && Nat.blt 0 s.n && (bif s.nxt then true else r.isEmpty)) with
    | false => rw [hb] at hs; cases hs
    | true =>
      rw [hb, cond_true] at hs
      simp only [Bool.and_eq_true, Bool.not_eq_true'] at hb
      obtain ⟨⟨⟨⟨b1, b2⟩, b3⟩, b4⟩, b5⟩ := hb
      simp only [List.all_cons, Bool.and_eq_true] at hlt
      have hsk := h.segs k s hk
      have hfix := hsk.fixed b2
      have hn : s.n = d.len := Nat.eq_of_beq_eq_true b3
      have hpos := blt_iff.1 b4
      have hcl : (d.cells ρ).length = d.len := cells_length ρ d
      have hcl0 : (s.d.cells ρ).length = s.d.len := cells_length ρ s.d
      have hd1 : ∀ v ∈ d.cells ρ, v.oneCell' = true := fun v hv => h1 v (by simp [pcells]; exact .inl hv)
      obtain ⟨w1, r1, p1⟩ := store_seg (P := P) (o := 0) h hk b1 (vs := d.cells ρ) (d := d) (by omega) (fun hgr => by rw [b2] at hgr; cases hgr) (by omega) hlt.1 hd1 (by
        simp [splice, hcl]
        omega)
      rw [Nat.add_zero] at r1
      cases r with
      | nil =>
        cases hs
        exact ⟨w1, by simpa [pcells] using r1, p1⟩
      | cons d2 r2 =>
        have hnx : s.nxt = true := by cases hh : s.nxt with
          | true => rfl
          | false => rw [hh] at b5; simp at b5
        obtain ⟨e1, e2⟩ := hsk.next hnx
        obtain ⟨w2, r3, p2⟩ := store_scatter (d2 :: r2) (setM m k d) (k + 1) m' w1 p1.ok hs hlt.2 (fun v hv => h1 v (by simp only [pcells, List.flatMap_cons, List.mem_append] at hv ⊢; exact .inr hv)) (by simp)
        refine ⟨w2, ?_, p1.trans p2⟩
        rw [e1, e2] at r3
        have hpc : pcells ρ (d :: d2 :: r2) = d.cells ρ ++ pcells ρ (d2 :: r2) := by simp [pcells]
        rw [hpc, storeCells_append, r1, Result.andThen_ok, Nat.zero_add, hcl, ← hn]
        exact r3

theorem bifn {b : Bool} {s : Seg} : (bif b then s.d.len else s.n) = if b then s.d.len else s.n := by cases b <;> rfl

theorem store_writes (hT : TysOk P cx.T) (ht : TmOk ρ t nx a) (hg : GlOk cx ρ nx) {ty : TypeId} {x y : Operand} {m' : Mem} {ob : List Prop} {o : Oper} (ho : o.op = .store ty x y)
    (h : storeM cx t m ty x y = some (m', ob)) (hob : ∀ q ∈ ob, q) : Writes P B ng ρ m nx a o undefS m' nx := by
  unfold storeM at h
  split at h <;> first | (cases h; done) | skip
  rename_i ti k off v hti hx hy
  have hok := hT ty ti hti
  obtain ⟨ex, lx⟩ := evs_den ht hg hx
  obtain ⟨ey, ly⟩ := ev_den ht hg hy
  obtain ⟨inf, hinf, hsz, _⟩ := hok.size
  cases hb : (Nat.beq v.len ti.sz && v.flat && Nat.blt 0 ti.sz) with
  | false => rw [hb] at h; cases h
  | true =>
    rw [hb, cond_true] at h
    simp only [Bool.and_eq_true] at hb
    obtain ⟨⟨hvl0, hvf⟩, hpos0⟩ := hb
    have hvl := Nat.eq_of_beq_eq_true hvl0
    have hpos := blt_iff.1 hpos0
    clear hvl0 hpos0
    have ey' : a.eval y = v.den ρ := ey
    have ly' : v.lt nx = true := ly
    have hcells : (v.den ρ).cells.toList = v.cellsOf ρ := SV0.cells_den hvf ρ
    have hlen : (v.cellsOf ρ).length = ti.sz := by rw [SV0.cellsOf_length, hvl]
    have hone := SV0.one hvf ρ
    have hcsz : (v.den ρ).cells.size = inf.size := by rw [← Array.length_toList, hcells, hlen, hsz]
    have fin : ∀ (w w' : World) (md : Mem), (storeCells ⟨(ρ k).blk, (ρ k).off + off, none⟩ (v.cellsOf ρ)).run P w = .ok () w' → PostM B ng ρ m nx w ρ md nx w' →
        ∃ ρ' w', ((execOp a.eval o).run P w = .ok (.value (undefS.den ρ')) w' ∨ ((execOp a.eval o).run P w = .ok .skip w' ∧ undefS.den ρ' = undef)) ∧ PostM B ng ρ m nx w ρ' md nx w' := by
      intro w w' md r p
      refine ⟨ρ, w', .inr ⟨?_, rfl⟩, p⟩
      simp [execOp, ho, ex, ey', Sc.den, Instr.storeAt, Instr.sureAddr, storeVar, run_sizeOf_of hinf, hcsz, hcells, r]
    split at h <;> first | (cases h; done) | skip
    · rename_i s y' hs
      cases hown : s.own with
      | false => rw [hown] at h; cases h
      | true =>
        rw [hown, cond_true] at h
        split at h <;> first | (cases h; done) | skip
        rename_i d _ ob' hd hn
        cases h
        obtain ⟨_, hn'⟩ := need_spec hn hob
        obtain ⟨p1, p2, p3⟩ := SegD.put_spec hd
        refine ⟨rfl, fun w hw => ?_⟩
        have hsk := hw.segs k s hs
        have hle : off + 1 ≤ s.d.len := by
          cases hgr : s.grow with
          | true => rw [hgr] at hn'; exact hn'
          | false => rw [hgr] at hn'; rw [hsk.fixed hgr]; exact hn'
        obtain ⟨w', r, p⟩ := store_seg (P := P) hw hs hown (o := off) (vs := (SV0.s y').cellsOf ρ) (d := d) (by simp [SV0.cellsOf]; omega) (fun _ => SegD.put_zv hd) p2 (p3 nx (hw.wf k s hs).1 ly') hone (by
          rw [SegD.cells, p1, List.map_set, set_eq_splice _ _ _ (by rw [List.length_map, scs_length]; omega)]; rfl)
        exact fin w w' _ r p
    · rename_i s e hs
      cases hown : s.own with
      | false => rw [hown] at h; cases h
      | true =>
        rw [hown, cond_true] at h
        have hel : e.len = ti.sz := by simpa [SV0.len, plen] using hvl
        have hec : (SV0.ag [e]).cellsOf ρ = e.cells ρ := by simp [SV0.cellsOf, pcells]
        have hecl : (e.cells ρ).length = e.len := cells_length ρ e
        have elt : e.lt nx = true := by simpa [SV0.lt] using ly'
        cases hc : (Nat.beq off 0 && !s.grow && Nat.beq s.n ti.sz) with
        | true =>
          rw [hc, cond_true] at h
          cases h
          simp only [Bool.and_eq_true, Bool.not_eq_true'] at hc
          obtain ⟨⟨c1, c2⟩, c3⟩ := hc
          have h0 : off = 0 := Nat.eq_of_beq_eq_true c1
          have hn0 : s.n = ti.sz := Nat.eq_of_beq_eq_true c3
          refine ⟨rfl, fun w hw => ?_⟩
          have hfix := (hw.segs k s hs).fixed c2
          have hscl : (s.d.cells ρ).length = s.d.len := cells_length ρ s.d
          obtain ⟨w', r, p⟩ := store_seg (P := P) hw hs hown (o := off) (vs := (SV0.ag [e]).cellsOf ρ) (d := e) (by rw [hec]; omega) (fun hgr => by rw [c2] at hgr; cases hgr) (by omega) elt hone (by
            rw [hec, h0]; simp [splice, hecl]; omega)
          exact fin w w' _ r p
        | false =>
          rw [hc, cond_false] at h
          split at h <;> first | (cases h; done) | skip
          rename_i d _ ob' hd hn
          cases h
          obtain ⟨_, hn'⟩ := need_spec hn hob
          obtain ⟨p1, p2, p3⟩ := SegD.spl_spec hd
          refine ⟨rfl, fun w hw => ?_⟩
          have hsk := hw.segs k s hs
          have hle : off + e.len ≤ s.d.len := by
            cases hgr : s.grow with
            | true => rw [hgr] at hn'; exact hn'
            | false => rw [hgr] at hn'; rw [hsk.fixed hgr]; exact hn'
          obtain ⟨w', r, p⟩ := store_seg (P := P) hw hs hown (o := off) (vs := (SV0.ag [e]).cellsOf ρ) (d := d) (by rw [hec]; omega) (fun _ => SegD.spl_zv hd) (p2 hle) (p3 nx (hw.wf k s hs).1 elt) hone (by
            rw [hec, SegD.cells, p1, splice_map]; rfl)
          exact fin w w' _ r p
    · rename_i s l _ hs
      cases hc : Nat.beq off 0 with
      | false => rw [hc] at h; cases h
      | true =>
        rw [hc, cond_true] at h
        have h0 : off = 0 := Nat.eq_of_beq_eq_true hc
        split at h <;> first | (cases h; done) | skip
        rename_i m2 hm2
        cases h
        refine ⟨rfl, fun w hw => ?_⟩
        have hne : l ≠ [] := fun e => by subst e; simp [SV0.len, plen] at hvl; omega
        obtain ⟨w', r, p⟩ := store_scatter (P := P) (B := B) (ng := ng) l m k _ w hw hm2 ly' hone hne
        exact fin w w' _ (by rw [h0, Nat.add_zero]; exact r) p

end
end Go.Sx

set_option linter.unusedVariables false
namespace Go.Sx
open Go.RowKit

def mkSegs : List SegD → List SegD → Option (List Seg)
  | [], [] => some []
  | z :: zr, d :: dr => match mkSegs zr dr with
    | some r => some (⟨z.len, d, true, false, !r.isEmpty⟩ :: r)
    | none => none
  | _, _ => none

def lensEq : List SegD → List SegD → Prop
  | [], [] => True
  | z :: zr, d :: dr => d.len = z.len ∧ lensEq zr dr
  | _, _ => False

def lensB : (l l' : List SegD) → Decidable (lensEq l l')
  | [], [] => isTrue trivial
  | z :: zr, d :: dr => match Nat.decEq d.len z.len, lensB zr dr with
    | isTrue h1, isTrue h2 => isTrue ⟨h1, h2⟩
    | isFalse h1, _ => isFalse fun h => h1 h.1
    | _, isFalse h2 => isFalse fun h => h2 h.2
  | [], _ :: _ => isFalse id
  | _ :: _, [] => isFalse id

instance (l l' : List SegD) : Decidable (lensEq l l') := lensB l l'

theorem mkSegs_spec : ∀ (z l : List SegD) (L : List Seg), mkSegs z l = some L → lensEq z l →
    (∀ s ∈ L, s.own = true ∧ s.d.len = s.n ∧ (∀ k, l.all (SegD.lt k) = true → s.d.lt k = true)) ∧ (∀ i s, L[i]? = some s → s.nxt = true → i + 1 < L.length) ∧ (∀ ρ, L.flatMap (fun s => s.d.cells ρ) = pcells ρ l) ∧ L.length = l.length
  | [], [], L, h, _ => by cases h; simp [pcells]
  | z :: zr, d :: dr, L, h, hl => by
    simp only [mkSegs] at h
    split at h <;> first | (cases h; done) | skip
    rename_i r hr
    cases h
    obtain ⟨i1, i2, i3, i4⟩ := mkSegs_spec zr dr r hr hl.2
    refine ⟨fun s hs => ?_, fun i s hi hn => ?_, fun ρ => ?_, by simp [i4]⟩
    · rcases List.mem_cons.1 hs with rfl | hs
      · exact ⟨rfl, hl.1, fun k hk => by simp only [List.all_cons, Bool.and_eq_true] at hk; exact hk.1⟩
      · obtain ⟨a, b, c⟩ := i1 s hs
        exact ⟨a, b, fun k hk => c k (by simp only [List.all_cons, Bool.and_eq_true] at hk; exact hk.2)⟩
    · cases i with
      | zero =>
        simp only [List.getElem?_cons_zero, Option.some.injEq] at hi
        subst hi
        simp only [Bool.not_eq_true', List.isEmpty_eq_false_iff] at hn
        have := List.length_pos_iff.2 hn
        simp; omega
      | succ i =>
        simp only [List.getElem?_cons_succ] at hi
        have := i2 i s hi hn
        simp; omega
    · have e := i3 ρ
      simp only [pcells] at e
      simp only [List.flatMap_cons, pcells, e]
  | [], _ :: _, _, h, _ => by cases h
  | _ :: _, [], _, h, _ => by cases h

/-- a scalar as a piece of one cell -/
def Sc.piece : Sc → SegD
  | .u8 x => .d8 [x]
  | .u32 x => .d32 [x]
  | .u64 x => .d64 [x]
  | .i x => .di [x]
  | x => .dc [x]

theorem Sc.piece_spec (x : Sc) : x.piece.scs = [x] ∧ ∀ n, x.lt n = true → x.piece.lt n = true := by
  cases x <;> exact ⟨rfl, fun n h => by simp [Sc.piece, SegD.lt, h]⟩

def SV0.pieces : SV0 → List SegD
  | .s x => [x.piece]
  | .ag l => l

theorem SV0.pieces_spec (v : SV0) : (∀ ρ, pcells ρ v.pieces = v.cellsOf ρ) ∧ ∀ n, v.lt n = true → v.pieces.all (SegD.lt n) = true := by
  cases v with
  | s x =>
    obtain ⟨h1, h2⟩ := Sc.piece_spec x
    exact ⟨fun ρ => by simp [SV0.pieces, pcells, SegD.cells, h1, SV0.cellsOf], fun n h => by simp [SV0.pieces, h2 n h]⟩
  | ag l => exact ⟨fun _ => rfl, fun _ h => h⟩

/-- n copies of the one cell of a piece -/
def SegD.rep : SegD → Nat → Option SegD
  | .d8 [x], n => some (.d8 (List.replicate n x))
  | .d32 [x], n => some (.d32 (List.replicate n x))
  | .d64 [x], n => some (.d64 (List.replicate n x))
  | .di [x], n => some (.di (List.replicate n x))
  | .dc [x], n => some (.dc (List.replicate n x))
  | _, _ => none

theorem SegD.rep_spec {d d' : SegD} {n : Nat} (h : d.rep n = some d') : d'.len = n ∧ (∀ ρ, ∃ v, d.cells ρ = [v] ∧ d'.cells ρ = List.replicate n v) ∧ ∀ k, d.lt k = true → d'.lt k = true := by
  unfold SegD.rep at h
  split at h <;> first | (cases h; done) | skip
  all_goals
    cases h
    refine ⟨by simp [SegD.len], fun ρ => ⟨_, rfl, by simp [SegD.cells, SegD.scs]⟩, fun k hk => ?_⟩
    first | rfl | skip
  refine List.all_eq_true.2 fun y hy => ?_
  rw [(List.mem_replicate.1 hy).2]
  exact List.all_eq_true.1 hk _ (by simp)

def newM (cx : Cx) (t : TM) (nx : Nat) : Op → Option (SV × List Seg × List Prop)
  | .alloc e => match find cx.T e with
    | some ti => match ti.z, mkSegs ti.z ti.z with
      | _ :: _, some L => some (.one (.s (.p nx 0)), L, [])
      | _, _ => none
    | none => none
  | .box e x => match find cx.T e, ev cx t x with
    | some ti, some (.one v) => bif v.flat && !v.pieces.isEmpty then (match mkSegs ti.z v.pieces, need cx (lensEq ti.z v.pieces) () with
      | some L, some (_, ob) => some (.one (.s (.p nx 0)), L, ob)
      | _, _ => none) else (match v with
      | .ag [] => some (.one (.s (.p nx 0)), [⟨0, .dc [], true, false, false⟩], [])
      | _ => none)
    | _, _ => none
  | .buildSlice ty n ps => match tyOf cx ty with
    | some (.slc e es _ _) => match find cx.T e with
      | some ti => match ti.z with
        | [zd] => bif Nat.beq es 1 && Nat.beq zd.len 1 && Nat.ble n 16777216 then (match zd.rep n, partsX cx t (fun i => some (i * es, es)) ps.toList with
          | some d, some qs => match buildX [d] qs with
            | some [d'] => bif Nat.beq n 0 then some (.one (.s (.osl nx 0)), [⟨0, d', true, true, false⟩], []) else some (.one (.s (.sl nx 0 n n)), [⟨n, d', true, false, false⟩], [])
            | _ => none
          | _, _ => none) else none
        | _ => none
      | none => none
    | _ => none
  | .makeSlice ty l c => match tyOf cx ty, evs cx t l, evs cx t c with
    | some (.slc e es _ eb), some (.i n), some (.i n') => match find cx.T e with
      | some ti => match ti.z with
        | [zd] => bif Nat.beq es 1 && Nat.beq zd.len 1 then (match zd.rep n.toNat, need cx (0 ≤ n ∧ n' = n ∧ n ≤ 281474976710656 ∧ eb * n ≤ 281474976710656) () with
          | some d, some (_, ob) => some (.one (.s (.sl nx 0 n.toNat n.toNat)), [⟨n.toNat, d, true, false, false⟩], ob)
          | _, _ => none) else none
        | _ => none
      | none => none
    | _, _, _ => none
  | _ => none

section
variable {P : Program} {cx : Cx} {B ng : Nat} {ρ : Env} {t : TM} {m : Mem} {nx : Nat} {a : Act}

/-- a new block: where its keys lie -/
theorem new_writes {o : Oper} {v : SV} {L : List Seg} (elem : TypeId) (cells : Array Value) (hv : v.lt (nx + L.length) = true)
    (hL : ∀ s ∈ L, s.own = true ∧ s.d.len = s.n ∧ s.d.lt nx = true ∧ True) (hlast : ∀ i s, L[i]? = some s → s.nxt = true → i + 1 < L.length) (hc : cells.toList = L.flatMap (fun s => s.d.cells ρ))
    (hrun : ∀ w, MemOk B ng ρ m nx w → ∃ u, (execOp a.eval o).run P w = .ok (.value u) (w.alloc (.cells cells elem)) ∧ ∀ ρ' : Env, ρ' nx = ⟨w.heap.size, 0, capAt L 0, false⟩ → v.den ρ' = u) :
    Writes P B ng ρ m nx a o v (addM nx L m) (nx + L.length) := by
  refine ⟨hv, fun w hw => ?_⟩
  obtain ⟨u, hu1, hu2⟩ := hrun w hw
  have hp := PostM.new hw L elem cells hL hlast hc
  refine ⟨_, _, .inl ?_, hp⟩
  rw [hu1, hu2 _ (by simp [offs])]

theorem zero_run {ty : TypeId} {ti : TyI} (hok : TyOk P ty ti) (hne : ti.z ≠ []) (ρ : Env) : ∃ zv, (∀ w, (zeroValue ty).run P w = .ok zv w) ∧ zv.cells = (pcells ρ ti.z).toArray := by
  obtain ⟨inf, hinf, hsz, hz⟩ := hok.size
  obtain ⟨zv, hzv, hc⟩ := hz hne
  refine ⟨zv, fun w => by simp [zeroValue, run_typeInfo w hinf, hzv], ?_⟩
  rw [hc]
  congr 1
  unfold pcells
  have : ti.z.map (SegD.cells (fun _ => ⟨0, 0, 0, false⟩)) = ti.z.map (SegD.cells ρ) :=
    List.map_congr_left fun d hd => SegD.cells_congr (n := 0) (fun k hk => absurd hk (Nat.not_lt_zero _)) (List.all_eq_true.1 hok.zwf d hd)
  simp only [List.flatMap, this]

theorem zlt {ty : TypeId} {ti : TyI} (hok : TyOk P ty ti) (n : Nat) : ti.z.all (SegD.lt n) = true :=
  List.all_eq_true.2 fun d hd => SegD.lt_mono (Nat.zero_le _) (List.all_eq_true.1 hok.zwf d hd)

theorem lensEq_refl : ∀ z, lensEq z z
  | [] => trivial
  | _ :: r => ⟨rfl, lensEq_refl r⟩

theorem mkSegs_ne {z l : List SegD} {L : List Seg} (h : mkSegs z l = some L) (hl : l ≠ []) : 0 < L.length := by
  cases l with
  | nil => exact absurd rfl hl
  | cons d r =>
    cases z with
    | nil => cases h
    | cons z zr =>
      simp only [mkSegs] at h
      split at h <;> first | (cases h; done) | skip
      cases h; simp

theorem alloc_writes (hT : TysOk P cx.T) {e : TypeId} {v : SV} {L : List Seg} {ob : List Prop} {o : Oper} (ho : o.op = .alloc e)
    (h : newM cx t nx (.alloc e) = some (v, L, ob)) : Writes P B ng ρ m nx a o v (addM nx L m) (nx + L.length) := by
  simp only [newM] at h
  split at h <;> first | (cases h; done) | skip
  rename_i ti hti
  have hok := hT e ti hti
  split at h <;> first | (cases h; done) | skip
  rename_i z0 zr L' hz hL
  cases h
  have hne : ti.z ≠ [] := by rw [hz]; simp
  obtain ⟨zv, z1, z2⟩ := zero_run hok hne ρ
  obtain ⟨m1, m2, m3, m4⟩ := mkSegs_spec _ _ _ hL (lensEq_refl _)
  have hpos := mkSegs_ne hL hne
  refine new_writes e zv.cells (blt_iff.2 (by omega)) (fun s hs => ⟨(m1 s hs).1, (m1 s hs).2.1, (m1 s hs).2.2 nx (zlt hok nx), trivial⟩) m2 (by rw [z2, m3 ρ]) (fun w hw => ⟨.pointer (some ⟨w.heap.size, 0, none⟩), ?_, fun ρ' hρ => ?_⟩)
  · simp only [execOp, ho, Instr.alloc, Sem.run_bind, z1, Result.andThen_ok, newVar, newRow, run_newObj, World.alloc_eq, Sem.run_pure]
  · simp [SV.den, SV0.den, Sc.den, hρ]

theorem box_writes (hT : TysOk P cx.T) (ht : TmOk ρ t nx a) (hg : GlOk cx ρ nx) {e : TypeId} {x : Operand} {v : SV} {L : List Seg} {ob : List Prop} {o : Oper} (ho : o.op = .box e x)
    (h : newM cx t nx (.box e x) = some (v, L, ob)) (hob : ∀ q ∈ ob, q) : Writes P B ng ρ m nx a o v (addM nx L m) (nx + L.length) := by
  simp only [newM] at h
  split at h <;> first | (cases h; done) | skip
  rename_i ti y hti hx
  obtain ⟨ex, lx⟩ := ev_den ht hg hx
  cases hb : (y.flat && !y.pieces.isEmpty) with
  | false =>
    rw [hb, cond_false] at h
    split at h <;> first | (cases h; done) | skip
    cases h
    refine new_writes e ((SV0.ag []).den ρ).cells (blt_iff.2 (by simp)) (fun s hs => by simp at hs; subst hs; exact ⟨rfl, rfl, rfl, trivial⟩) (fun i s hs hx => by
      cases i with
      | zero => simp at hs; subst hs; cases hx
      | succ i => simp at hs) rfl (fun w hw => ⟨.pointer (some ⟨w.heap.size, 0, none⟩), ?_, fun ρ' hρ => ?_⟩)
    · have ex' : a.eval x = (SV0.ag []).den ρ := ex
      simp only [execOp, ho, ex', Instr.box, Sem.run_bind, Result.andThen_ok, newVar, newRow, run_newObj, World.alloc_eq, Sem.run_pure]
    · simp [SV.den, SV0.den, Sc.den, hρ]
  | true =>
    rw [hb, cond_true] at h
    simp only [Bool.and_eq_true, Bool.not_eq_true', List.isEmpty_eq_false_iff] at hb
    obtain ⟨hf, hne⟩ := hb
    split at h <;> first | (cases h; done) | skip
    rename_i L' _ ob' hL hn
    cases h
    obtain ⟨_, hlens⟩ := need_spec hn hob
    obtain ⟨m1, m2, m3, m4⟩ := mkSegs_spec _ _ _ hL hlens
    obtain ⟨p1, p2⟩ := SV0.pieces_spec y
    have ly : y.lt nx = true := lx
    have ex' : a.eval x = y.den ρ := ex
    have hc : (y.den ρ).cells.toList = L.flatMap (fun s => s.d.cells ρ) := by rw [m3 ρ, p1 ρ, SV0.cells_den hf ρ]
    have hpos := mkSegs_ne hL hne
    refine new_writes e (y.den ρ).cells (blt_iff.2 (by omega)) (fun s hs => ⟨(m1 s hs).1, (m1 s hs).2.1, (m1 s hs).2.2 nx (p2 nx ly), trivial⟩) m2 hc (fun w hw => ⟨.pointer (some ⟨w.heap.size, 0, none⟩), ?_, fun ρ' hρ => ?_⟩)
    · simp only [execOp, ho, ex', Instr.box, Sem.run_bind, Result.andThen_ok, newVar, newRow, run_newObj, World.alloc_eq, Sem.run_pure]
    · simp [SV.den, SV0.den, Sc.den, hρ]

theorem repl_cells (zc : Array Value) (v : Value) (hz : zc = #[v]) (n : Nat) : (Array.range n).map (fun i => zc[i % zc.size]!) = (List.replicate n v).toArray := by
  subst hz
  apply Array.ext'
  rw [Array.toList_map, Array.toList_range]
  apply List.ext_getElem
  · simp
  · intro i h1 h2
    simp [Nat.mod_one]


theorem buildSlice_writes (hT : TysOk P cx.T) (ht : TmOk ρ t nx a) (hg : GlOk cx ρ nx) {ty : TypeId} {n : Nat} {ps : Array (Nat × Operand)} {v : SV} {L : List Seg} {ob : List Prop} {o : Oper} (ho : o.op = .buildSlice ty n ps)
    (h : newM cx t nx (.buildSlice ty n ps) = some (v, L, ob)) : Writes P B ng ρ m nx a o v (addM nx L m) (nx + L.length) := by
  simp only [newM] at h
  split at h <;> first | (cases h; done) | skip
  rename_i e es ea eb hty
  obtain ⟨i, hi, hok⟩ := tyOf_ok hT hty
  have hd := hok.desc
  rw [hi] at hd
  obtain ⟨hu, ⟨inf, hinf, hsz, _⟩, _⟩ := hd
  split at h <;> first | (cases h; done) | skip
  rename_i ti hti
  have hoke := hT e ti hti
  split at h <;> first | (cases h; done) | skip
  rename_i zd hz
  cases hb : (Nat.beq es 1 && Nat.beq zd.len 1 && Nat.ble n 16777216) with
  | false => rw [hb] at h; cases h
  | true =>
    rw [hb, cond_true] at h
    simp only [Bool.and_eq_true] at hb
    obtain ⟨⟨b1, b2⟩, b3⟩ := hb
    have hes : es = 1 := Nat.eq_of_beq_eq_true b1
    have hn : n ≤ 16777216 := Nat.le_of_ble_eq_true b3
    subst hes
    split at h <;> first | (cases h; done) | skip
    rename_i d qs hd hqs
    split at h <;> first | (cases h; done) | skip
    rename_i d' hd'
    obtain ⟨r1, r2, r3⟩ := SegD.rep_spec hd
    obtain ⟨f1, f2, f3⟩ := fill_splice (a := a) (ρ := ρ) _ ps.toList qs [d] [d'] ht hg hqs hd'
    obtain ⟨zv, z1, z2⟩ := zero_run hoke (by rw [hz]; simp) ρ
    obtain ⟨cv, c1, c2⟩ := r2 ρ
    have hzlt := zlt hoke nx
    rw [hz] at hzlt
    have hzl : zd.lt nx = true := by simpa using hzlt
    have hd'l : d'.lt nx = true := by have := f3 (by simpa using r3 nx hzl); simpa using this
    have hlen : d'.len = n := by simpa [plen, r1] using f2
    have hzc : zv.cells = #[cv] := by rw [z2, hz]; simp [pcells, c1]
    have hpc : (pcells ρ [d]).toArray = (List.replicate n cv).toArray := by simp [pcells, c2]
    have hparts : (ps.map fun (e : Nat × Operand) => (e.1, a.eval e.2)).toList = ps.toList.map fun (e : Nat × Operand) => (e.1, a.eval e.2) := by simp
    have hfill : Instr.fill (fun i => some (i * inf.size, inf.size)) (List.replicate n cv).toArray (ps.map fun (e : Nat × Operand) => (e.1, a.eval e.2)).toList = some (d'.cells ρ).toArray := by
      rw [hparts, hsz, ← hpc, f1]
      simp [pcells]
    have hrun : ∀ w, (execOp a.eval o).run P w = .ok (.value (.slice (some ⟨w.heap.size, 0, none⟩) n n)) (w.alloc (.cells (d'.cells ρ).toArray e)) := by
      intro w
      have hs := run_sizeOf_of (P := P) hinf w
      have hnn : ¬ (n * inf.size > 2 ^ 24) := by rw [hsz]; omega
      by_cases hz0 : n * inf.size = 0
      · have hn0 : n = 0 := by rw [hsz] at hz0; omega
        have hgt : ¬ (0 > 2 ^ 24) := by decide
        have hr : (Array.range 0).map (fun i => (#[] : Array Value)[i % (#[] : Array Value).size]!) = (List.replicate n cv).toArray := by simp [hn0]
        simp only [execOp, ho, Instr.buildSlice, Sem.run_bind, run_underlying hu, Result.andThen_ok, hs, hz0, hgt, if_false, if_true, Sem.run_pure, pure_bind]
        rw [hr, hfill]
        simp only [Sem.run_pure, Result.andThen_ok, Sem.run_bind, newRow, run_newObj, World.alloc_eq]
      · have hr : (Array.range (n * inf.size)).map (fun i => zv.cells[i % zv.cells.size]!) = (List.replicate n cv).toArray := by
          rw [hsz, Nat.mul_one]; exact repl_cells zv.cells cv hzc n
        simp only [execOp, ho, Instr.buildSlice, Sem.run_bind, run_underlying hu, Result.andThen_ok, hs, hnn, if_false, hz0, z1, Sem.run_pure, bind_assoc, pure_bind]
        rw [hr, hfill]
        simp only [Sem.run_pure, Result.andThen_ok, Sem.run_bind, newRow, run_newObj, World.alloc_eq]
    cases hn0 : Nat.beq n 0 with
    | true =>
      rw [hn0, cond_true] at h
      cases h
      have hn0' : n = 0 := Nat.eq_of_beq_eq_true hn0
      refine new_writes e (d'.cells ρ).toArray (blt_iff.2 (by simp)) (fun s hs => ?_) (fun i s hi hnx => ?_) (by simp) (fun w hw => ⟨.slice (some ⟨w.heap.size, 0, none⟩) n n, hrun w, fun ρ' hρ => ?_⟩)
      · simp only [List.mem_singleton] at hs; subst hs; exact ⟨rfl, by simpa [hn0'] using hlen, hd'l, trivial⟩
      · cases i with
        | zero => simp only [List.getElem?_cons_zero, Option.some.injEq] at hi; subst hi; cases hnx
        | succ i => simp at hi
      · simp [SV.den, SV0.den, Sc.den, hρ, capAt, hn0']
    | false =>
      rw [hn0, cond_false] at h
      cases h
      refine new_writes e (d'.cells ρ).toArray (blt_iff.2 (by simp)) (fun s hs => ?_) (fun i s hi hnx => ?_) (by simp) (fun w hw => ⟨.slice (some ⟨w.heap.size, 0, none⟩) n n, hrun w, fun ρ' hρ => ?_⟩)
      · simp only [List.mem_singleton] at hs; subst hs; exact ⟨rfl, hlen, hd'l, trivial⟩
      · cases i with
        | zero => simp only [List.getElem?_cons_zero, Option.some.injEq] at hi; subst hi; cases hnx
        | succ i => simp at hi
      · simp [SV.den, SV0.den, Sc.den, hρ]

theorem makeSlice_writes (hT : TysOk P cx.T) (ht : TmOk ρ t nx a) (hg : GlOk cx ρ nx) {ty : TypeId} {l c : Operand} {v : SV} {L : List Seg} {ob : List Prop} {o : Oper} (ho : o.op = .makeSlice ty l c)
    (h : newM cx t nx (.makeSlice ty l c) = some (v, L, ob)) (hob : ∀ q ∈ ob, q) : Writes P B ng ρ m nx a o v (addM nx L m) (nx + L.length) := by
  simp only [newM] at h
  split at h <;> first | (cases h; done) | skip
  rename_i e es ea eb n n' hty hl hc
  obtain ⟨i, hi, hok⟩ := tyOf_ok hT hty
  have hd := hok.desc
  rw [hi] at hd
  obtain ⟨hu, ⟨inf, hinf, hsz, hby⟩, _⟩ := hd
  obtain ⟨el, _⟩ := evs_den ht hg hl
  obtain ⟨ec, _⟩ := evs_den ht hg hc
  split at h <;> first | (cases h; done) | skip
  rename_i ti hti
  have hoke := hT e ti hti
  split at h <;> first | (cases h; done) | skip
  rename_i zd hz
  cases hb : (Nat.beq es 1 && Nat.beq zd.len 1) with
  | false => rw [hb] at h; cases h
  | true =>
    rw [hb, cond_true] at h
    simp only [Bool.and_eq_true] at hb
    obtain ⟨b1, b2⟩ := hb
    have hes : es = 1 := Nat.eq_of_beq_eq_true b1
    subst hes
    split at h <;> first | (cases h; done) | skip
    rename_i d _ ob' hd hn
    cases h
    obtain ⟨_, hn0, hnn, hn1, hn2⟩ := need_spec hn hob
    rw [hnn] at ec
    obtain ⟨r1, r2, r3⟩ := SegD.rep_spec hd
    obtain ⟨zv, z1, z2⟩ := zero_run hoke (by rw [hz]; simp) ρ
    obtain ⟨cv, c1, c2⟩ := r2 ρ
    have hzlt := zlt hoke nx
    rw [hz] at hzlt
    have hzl : zd.lt nx = true := by simpa using hzlt
    have hzc : zv.cells = #[cv] := by rw [z2, hz]; simp [pcells, c1]
    have hrng : rng n := by unfold rng; omega
    have hrun : ∀ w, (execOp a.eval o).run P w = .ok (.value (.slice (some ⟨w.heap.size, 0, none⟩) n.toNat n.toNat)) (w.alloc (.cells (d.cells ρ).toArray e)) := by
      intro w
      have hs := run_sizeOf_of (P := P) hinf w
      have ht' := run_typeInfo (P := P) w hinf
      have hlarge : (decide (n < 0) || decide ((inf.bytes : Int) * n > 2 ^ 48)) = false := by
        rw [hby]; simp; omega
      have hcond : ((decide (n < 0) || decide ((inf.bytes : Int) * n > 2 ^ 48)) || decide (n < 0) || decide (n > n)) = false := by
        rw [hlarge]; simp; omega
      have hcells : ((Array.range (n.toNat * inf.size)).map (fun i => zv.cells[i % zv.cells.size]!)) = (d.cells ρ).toArray := by
        rw [hsz, Nat.mul_one, repl_cells zv.cells cv hzc, c2]
      simp only [execOp, ho, el, ec, Sc.den, Instr.makeSlice, asInt, asIntOf, Sem.run_bind, run_underlying hu, Result.andThen_ok, Sem.run_pure, ht', wrap_rng hrng, hcond, Bool.false_eq_true, if_false, run_askRoom, hs]
      by_cases hz0 : n.toNat * inf.size = 0
      · have hnz : n.toNat = 0 := by rw [hsz] at hz0; omega
        have hr : (Array.range 0).map (fun i => (#[] : Array Value)[i % (#[] : Array Value).size]!) = (d.cells ρ).toArray := by rw [c2, hnz]; simp
        simp only [hz0, if_true, Sem.run_pure, Result.andThen_ok, hr, newRow, Sem.run_bind, run_newObj, World.alloc_eq]
      · simp only [hz0, if_false, Sem.run_bind, z1, Sem.run_pure, Result.andThen_ok, hcells, newRow, run_newObj, World.alloc_eq]
    refine new_writes e (d.cells ρ).toArray (blt_iff.2 (by simp)) (fun s hs => ?_) (fun i s hi hnx => ?_) (by simp) (fun w hw => ⟨.slice (some ⟨w.heap.size, 0, none⟩) n.toNat n.toNat, hrun w, fun ρ' hρ => ?_⟩)
    · simp only [List.mem_singleton] at hs; subst hs; exact ⟨rfl, r1, r3 nx hzl, trivial⟩
    · cases i with
      | zero => simp only [List.getElem?_cons_zero, Option.some.injEq] at hi; subst hi; cases hnx
      | succ i => simp at hi
    · simp [SV.den, SV0.den, Sc.den, hρ]

theorem new_all (hT : TysOk P cx.T) (ht : TmOk ρ t nx a) (hg : GlOk cx ρ nx) {v : SV} {L : List Seg} {ob : List Prop} {o : Oper}
    (h : newM cx t nx o.op = some (v, L, ob)) (hob : ∀ q ∈ ob, q) : Writes P B ng ρ m nx a o v (addM nx L m) (nx + L.length) := by
  cases ho : o.op <;> rw [ho] at h
  case alloc e => exact alloc_writes hT ho h
  case box e x => exact box_writes hT ht hg ho h hob
  case buildSlice ty n ps => exact buildSlice_writes hT ht hg ho h
  case makeSlice ty l c => exact makeSlice_writes hT ht hg ho h hob
  all_goals (simp only [newM] at h; cases h)

end
end Go.Sx

set_option linter.unusedVariables false
namespace Go.Sx
open Go.RowKit

/-- the row, the place and the length of what a slice, or a text, shows -/
def srcX (m : Mem) : Sc → Option (SegD × Nat × Nat)
  | .sl k o len _ => match find m k with
    | some s => some (s.d, o, len)
    | none => none
  | .osl k len => match find m k with
    | some s => some (s.d, 0, len)
    | none => none
  | .sl0 => some (.d8 [], 0, 0)
  | .str l => some (.d8 l, 0, l.length)
  | _ => none

def dstX (m : Mem) : Sc → Option (Nat × Seg × Nat × Nat)
  | .sl k o len _ => match find m k with
    | some s => some (k, s, o, len)
    | none => none
  | .osl k len => match find m k with
    | some s => some (k, s, 0, len)
    | none => none
  | _ => none

def SegD.kindB : SegD → SegD → Bool
  | .d8 _, .d8 _ => true
  | .d32 _, .d32 _ => true
  | .d64 _, .d64 _ => true
  | .di _, .di _ => true
  | .dc _, .dc _ => true
  | _, _ => false

def copyM (cx : Cx) (t : TM) (m : Mem) (ty : Option Ty) (x y : Operand) : Option (SV × Mem × List Prop) :=
  match ty, evs cx t x, evs cx t y with
  | some (.slc _ es _ _), some dv, some sv => match dstX m dv, srcX m sv with
    | some (k, s, o, len), some (e, o', len') => bif s.own && Nat.beq es 1 && e.flatB then (match s.d.spl o (e.sub o' (Nat.min len' len)), need cx (o' + len' ≤ e.len ∧ o + len ≤ bif s.grow then s.d.len else s.n) () with
      | some d, some (_, ob) => some (.one (.s (.i (Nat.min len' len : Nat))), setM m k d, ob)
      | _, _ => none) else none
    | _, _ => none
  | _, _, _ => none

section
variable {P : Program} {cx : Cx} {B ng : Nat} {ρ : Env} {t : TM} {m : Mem} {nx : Nat} {a : Act}

theorem srcX_run {w : World} (hw : MemOk B ng ρ m nx w) {x : Sc} {e : SegD} {o len : Nat} (h : srcX m x = some (e, o, len)) (hl : o + len ≤ e.len) :
    (Builtin.lenOf (x.den ρ)).run P w = .ok len w ∧ (∀ n, n ≤ len → (Builtin.firstCells 1 n (x.den ρ)).run P w = .ok (((e.cells ρ).drop o).take n).toArray w) ∧ (e.lt nx = true) := by
  cases x <;> simp only [srcX, reduceCtorEq] at h
  case sl k o' len' cap =>
    split at h <;> first | (cases h; done) | skip
    rename_i s hs
    cases h
    refine ⟨by simp [Sc.den, Builtin.lenOf], fun n hn => ?_, (hw.wf k s hs).1⟩
    have := run_loadCells_seg (P := P) (hw.segs k s hs) (o := o) (n := n) (by omega)
    simp [Sc.den, Builtin.firstCells, this]
  case osl k len' =>
    split at h <;> first | (cases h; done) | skip
    rename_i s hs
    cases h
    refine ⟨by simp [Sc.den, Builtin.lenOf], fun n hn => ?_, (hw.wf k s hs).1⟩
    have hsk := hw.segs k s hs
    cases hnil : (ρ k).isNil with
    | true =>
      have := hsk.nil hnil
      have := hsk.cap
      have hn0 : n = 0 := by omega
      subst hn0
      simp [Sc.den, hnil, Builtin.firstCells]
    | false =>
      have := run_loadCells_seg (P := P) hsk (o := 0) (n := n) (by omega)
      simp only [Nat.add_zero, List.drop_zero] at this
      simp [Sc.den, hnil, Builtin.firstCells, this]
  case sl0 =>
    cases h
    refine ⟨by simp [Sc.den, Builtin.lenOf], fun n hn => ?_, rfl⟩
    have hn0 : n = 0 := by omega
    subst hn0
    simp [Sc.den, Builtin.firstCells]
  case str l =>
    cases h
    refine ⟨by simp [Sc.den, Builtin.lenOf, ByteArray.size], fun n hn => ?_, rfl⟩
    simp only [Sc.den, Builtin.firstCells, Sem.run_pure, List.drop_zero]
    congr 1
    apply Array.ext'
    simp [SegD.cells, SegD.scs, Function.comp_def, Sc.den, List.map_take]

theorem dstX_run {w : World} (hw : MemOk B ng ρ m nx w) {x : Sc} {k : Nat} {s : Seg} {o len : Nat} (h : dstX m x = some (k, s, o, len)) (hl : o + len ≤ s.d.len) :
    find m k = some s ∧ ∃ base cap, x.den ρ = .slice base len cap ∧ ((base = none ∧ len = 0) ∨ base = some ⟨(ρ k).blk, (ρ k).off + o, none⟩) := by
  cases x <;> simp only [dstX, reduceCtorEq] at h
  case sl k' o' len' cap =>
    split at h <;> first | (cases h; done) | skip
    rename_i s' hs
    cases h
    exact ⟨hs, _, _, rfl, .inr rfl⟩
  case osl k' len' =>
    split at h <;> first | (cases h; done) | skip
    rename_i s' hs
    cases h
    refine ⟨hs, _, _, rfl, ?_⟩
    have hsk := hw.segs k s hs
    cases hnil : (ρ k).isNil with
    | true => exact .inl ⟨by simp, by have := hsk.nil hnil; have := hsk.cap; omega⟩
    | false => exact .inr (by simp)

theorem SegD.sub_len (d : SegD) (o n : Nat) (h : o + n ≤ d.len) : (d.sub o n).len = n := by
  rw [← scs_length, SegD.sub_scs, List.length_take, List.length_drop, scs_length]; omega

theorem SegD.flat_one {e : SegD} (h : e.flatB = true) (ρ : Env) : ∀ v ∈ e.cells ρ, v.oneCell' = true := SegD.one (by cases e <;> first | rfl | exact h) ρ

theorem copy_writes (hT : TysOk P cx.T) (ht : TmOk ρ t nx a) (hg : GlOk cx ρ nx) {c : Call} {x y : Operand} {v : SV} {m' : Mem} {ob : List Prop} {o : Oper} (ho : o.op = .call c) (hc : c.callee = .builtin .copy) (hargs : c.args.toList = [x, y])
    (h : copyM cx t m (match c.argTypes[0]? with
      | some ty => tyOf cx ty
      | none => none) x y = some (v, m', ob)) (hob : ∀ q ∈ ob, q) : Writes P B ng ρ m nx a o v m' nx := by
  have hca : c.args = #[x, y] := by cases hh : c.args; simp_all
  unfold copyM at h
  split at h <;> first | (cases h; done) | skip
  rename_i e0 es ea eb dv sv hty hx hy
  split at hty <;> first | (cases hty; done) | skip
  rename_i ty hty0
  obtain ⟨i, hi, hok⟩ := tyOf_ok hT hty
  have hd := hok.desc
  rw [hi] at hd
  obtain ⟨hu, ⟨inf, hinf, hsz, _⟩, _⟩ := hd
  obtain ⟨ex, _⟩ := evs_den ht hg hx
  obtain ⟨ey, _⟩ := evs_den ht hg hy
  split at h <;> first | (cases h; done) | skip
  rename_i k s off len e o' len' hdst hsrc
  cases hb : (s.own && Nat.beq es 1 && e.flatB) with
  | false => rw [hb] at h; cases h
  | true =>
    rw [hb, cond_true] at h
    simp only [Bool.and_eq_true] at hb
    obtain ⟨⟨b1, b2⟩, b3⟩ := hb
    have hes : es = 1 := Nat.eq_of_beq_eq_true b2
    split at h <;> first | (cases h; done) | skip
    rename_i d _ ob' hd hn
    cases h
    obtain ⟨_, hn1, hn2⟩ := need_spec hn hob
    refine ⟨rfl, fun w hw => ?_⟩
    have hmin1 : Nat.min len' len ≤ len' := Nat.min_le_left _ _
    have hmin2 : Nat.min len' len ≤ len := Nat.min_le_right _ _
    have hm0 : len = 0 → Nat.min len' len = 0 := fun e => by rw [e] at hmin2; rw [e]; omega
    generalize hN : Nat.min len' len = N at *
    have hle : off + len ≤ s.d.len := by
      cases hgr : s.grow with
      | true => rw [hgr] at hn2; exact hn2
      | false =>
        rw [hgr] at hn2
        have hfind : find m k = some s := by
          cases dv <;> simp only [dstX, reduceCtorEq] at hdst
          all_goals
            split at hdst <;> first | (cases hdst; done) | skip
            rename_i s' hs'
            cases hdst
            exact hs'
        rw [(hw.segs k s hfind).fixed hgr]; exact hn2
    obtain ⟨s1, s2, s3⟩ := srcX_run (P := P) hw hsrc hn1
    obtain ⟨hs, base, cap, hbase, hor⟩ := dstX_run hw hdst hle
    obtain ⟨p1, p2, p3⟩ := SegD.spl_spec hd
    have hsl := SegD.sub_len e o' N (by omega)
    have hcells : ((e.cells ρ).drop o').take N = (e.sub o' N).cells ρ := by
      simp [SegD.cells, SegD.sub_scs, List.map_take, List.map_drop]
    have hvl : (((e.cells ρ).drop o').take N).length = N := by rw [hcells, cells_length, hsl]
    obtain ⟨w', r, p⟩ := store_seg (P := P) hw hs b1 (o := off) (vs := ((e.cells ρ).drop o').take N) (d := d) (by omega) (fun _ => SegD.spl_zv hd) (p2 (by omega)) (p3 nx (hw.wf k s hs).1 (SegD.sub_lt s3 _ _))
      (fun u hu => SegD.flat_one b3 ρ u (List.mem_of_mem_drop (List.mem_of_mem_take hu))) (by rw [hcells, SegD.cells, p1, splice_map]; rfl)
    have hsz1 := run_sizeOf_of (P := P) hinf w
    rw [hsz, hes] at hsz1
    have ex' : a.eval x = .slice base len cap := ex.trans hbase
    rcases hor with ⟨rfl, hl0⟩ | rfl
    · have hm0 := hm0 hl0
      have hww : w' = w := by
        rw [hm0] at r
        simp only [List.take_zero, storeCells, Sem.run_pure, Result.ok.injEq, true_and] at r
        exact r.symm
      rw [hww] at p
      refine ⟨ρ, w, .inl ?_, p⟩
      simp only [execOp, ho, resolve, hc, hca, Sem.run_bind, Sem.run_pure, Result.andThen_ok, invoke, Go.builtin, Builtin.copy_, hty0]
      have hz := s2 _ hmin1
      rw [hm0] at hz hN
      simp [ex', ey, run_underlying hu, s1, hsz1, hN, hz, SV.den, SV0.den, Sc.den, goInt, hm0]
    · refine ⟨ρ, w', .inl ?_, p⟩
      simp only [execOp, ho, resolve, hc, hca, Sem.run_bind, Sem.run_pure, Result.andThen_ok, invoke, Go.builtin, Builtin.copy_, hty0]
      simp [ex', ey, run_underlying hu, s1, hsz1, hN, s2 _ hmin1, r, SV.den, SV0.den, Sc.den, goInt]

end
end Go.Sx
