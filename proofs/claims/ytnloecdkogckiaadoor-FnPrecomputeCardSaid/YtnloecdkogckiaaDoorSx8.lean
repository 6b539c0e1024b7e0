/- Symbolic operations that make memory: new variables, boxes, slices; and their soundness. Conditions: none; plain definitions and theorems over any program. -/
import Derived.Test.YtnloecdkogckiaaDoorSx7
set_option linter.unusedVariables false
namespace Go.Sx
open Go.RowKit

def mkSegs : List SegD → List SegD → Option (List Seg)
  | [], [] => some []
  | z :: zr, d :: dr => match mkSegs zr dr with
    | some r => some (⟨z.len, d, true, false, !r.isEmpty⟩ :: r)
    | none => none
  | _, _ => none

def lensEq : List SegD → List SegD → Prop
  | [], [] => True
  | z :: zr, d :: dr => d.len = z.len ∧ lensEq zr dr
  | _, _ => False

def lensB : (l l' : List SegD) → Decidable (lensEq l l')
  | [], [] => isTrue trivial
  | z :: zr, d :: dr => match Nat.decEq d.len z.len, lensB zr dr with
    | isTrue h1, isTrue h2 => isTrue ⟨h1, h2⟩
    | isFalse h1, _ => isFalse fun h => h1 h.1
    | _, isFalse h2 => isFalse fun h => h2 h.2
  | [], _ :: _ => isFalse id
  | _ :: _, [] => isFalse id

instance (l l' : List SegD) : Decidable (lensEq l l') := lensB l l'

theorem mkSegs_spec : ∀ (z l : List SegD) (L : List Seg), mkSegs z l = some L → lensEq z l →
    (∀ s ∈ L, s.own = true ∧ s.d.len = s.n ∧ (∀ k, l.all (SegD.lt k) = true → s.d.lt k = true)) ∧ (∀ i s, L[i]? = some s → s.nxt = true → i + 1 < L.length) ∧ (∀ ρ, L.flatMap (fun s => s.d.cells ρ) = pcells ρ l) ∧ L.length = l.length
  | [], [], L, h, _ => by cases h; simp [pcells]
  | z :: zr, d :: dr, L, h, hl => by
    simp only [mkSegs] at h
    split at h <;> first | (cases h; done) | skip
    rename_i r hr
    cases h
    obtain ⟨i1, i2, i3, i4⟩ := mkSegs_spec zr dr r hr hl.2
    refine ⟨fun s hs => ?_, fun i s hi hn => ?_, fun ρ => ?_, by simp [i4]⟩
    · rcases List.mem_cons.1 hs with rfl | hs
      · exact ⟨rfl, hl.1, fun k hk => by simp only [List.all_cons, Bool.and_eq_true] at hk; exact hk.1⟩
      · obtain ⟨a, b, c⟩ := i1 s hs
        exact ⟨a, b, fun k hk => c k (by simp only [List.all_cons, Bool.and_eq_true] at hk; exact hk.2)⟩
    · cases i with
      | zero =>
        simp only [List.getElem?_cons_zero, Option.some.injEq] at hi
        subst hi
        simp only [Bool.not_eq_true', List.isEmpty_eq_false_iff] at hn
        have := List.length_pos_iff.2 hn
        simp; omega
      | succ i =>
        simp only [List.getElem?_cons_succ] at hi
        have := i2 i s hi hn
        simp; omega
    · have e := i3 ρ
      simp only [pcells] at e
      simp only [List.flatMap_cons, pcells, e]
  | [], _ :: _, _, h, _ => by cases h
  | _ :: _, [], _, h, _ => by cases h

/-- a scalar as a piece of one cell -/
def Sc.piece : Sc → SegD
  | .u8 x => .d8 [x]
  | .u32 x => .d32 [x]
  | .u64 x => .d64 [x]
  | .i x => .di [x]
  | x => .dc [x]

theorem Sc.piece_spec (x : Sc) : x.piece.scs = [x] ∧ ∀ n, x.lt n = true → x.piece.lt n = true := by
  cases x <;> exact ⟨rfl, fun n h => by simp [Sc.piece, SegD.lt, h]⟩

def SV0.pieces : SV0 → List SegD
  | .s x => [x.piece]
  | .ag l => l

theorem SV0.pieces_spec (v : SV0) : (∀ ρ, pcells ρ v.pieces = v.cellsOf ρ) ∧ ∀ n, v.lt n = true → v.pieces.all (SegD.lt n) = true := by
  cases v with
  | s x =>
    obtain ⟨h1, h2⟩ := Sc.piece_spec x
    exact ⟨fun ρ => by simp [SV0.pieces, pcells, SegD.cells, h1, SV0.cellsOf], fun n h => by simp [SV0.pieces, h2 n h]⟩
  | ag l => exact ⟨fun _ => rfl, fun _ h => h⟩

/-- n copies of the one cell of a piece -/
def SegD.rep : SegD → Nat → Option SegD
  | .d8 [x], n => some (.d8 (List.replicate n x))
  | .d32 [x], n => some (.d32 (List.replicate n x))
  | .d64 [x], n => some (.d64 (List.replicate n x))
  | .di [x], n => some (.di (List.replicate n x))
  | .dc [x], n => some (.dc (List.replicate n x))
  | _, _ => none

theorem SegD.rep_spec {d d' : SegD} {n : Nat} (h : d.rep n = some d') : d'.len = n ∧ (∀ ρ, ∃ v, d.cells ρ = [v] ∧ d'.cells ρ = List.replicate n v) ∧ ∀ k, d.lt k = true → d'.lt k = true := by
  unfold SegD.rep at h
  split at h <;> first | (cases h; done) | skip
  all_goals
    cases h
    refine ⟨by simp [SegD.len], fun ρ => ⟨_, rfl, by simp [SegD.cells, SegD.scs]⟩, fun k hk => ?_⟩
    first | rfl | skip
  refine List.all_eq_true.2 fun y hy => ?_
  rw [(List.mem_replicate.1 hy).2]
  exact List.all_eq_true.1 hk _ (by simp)

def newM (cx : Cx) (t : TM) (nx : Nat) : Op → Option (SV × List Seg × List Prop)
  | .alloc e => match find cx.T e with
    | some ti => match ti.z, mkSegs ti.z ti.z with
      | _ :: _, some L => some (.one (.s (.p nx 0)), L, [])
      | _, _ => none
    | none => none
  | .box e x => match find cx.T e, ev cx t x with
    | some ti, some (.one v) => bif v.flat && !v.pieces.isEmpty then (match mkSegs ti.z v.pieces, need cx (lensEq ti.z v.pieces) () with
      | some L, some (_, ob) => some (.one (.s (.p nx 0)), L, ob)
      | _, _ => none) else (match v with
      | .ag [] => some (.one (.s (.p nx 0)), [⟨0, .dc [], true, false, false⟩], [])
      | _ => none)
    | _, _ => none
  | .buildSlice ty n ps => match tyOf cx ty with
    | some (.slc e es _ _) => match find cx.T e with
      | some ti => match ti.z with
        | [zd] => bif Nat.beq es 1 && Nat.beq zd.len 1 && Nat.ble n 16777216 then (match zd.rep n, partsX cx t (fun i => some (i * es, es)) ps.toList with
          | some d, some qs => match buildX [d] qs with
            | some [d'] => bif Nat.beq n 0 then some (.one (.s (.osl nx 0)), [⟨0, d', true, true, false⟩], []) else some (.one (.s (.sl nx 0 n n)), [⟨n, d', true, false, false⟩], [])
            | _ => none
          | _, _ => none) else none
        | _ => none
      | none => none
    | _ => none
  | .makeSlice ty l c => match tyOf cx ty, evs cx t l, evs cx t c with
    | some (.slc e es _ eb), some (.i n), some (.i n') => match find cx.T e with
      | some ti => match ti.z with
        | [zd] => bif Nat.beq es 1 && Nat.beq zd.len 1 then (match zd.rep n.toNat, need cx (0 ≤ n ∧ n' = n ∧ n ≤ 281474976710656 ∧ eb * n ≤ 281474976710656) () with
          | some d, some (_, ob) => some (.one (.s (.sl nx 0 n.toNat n.toNat)), [⟨n.toNat, d, true, false, false⟩], ob)
          | _, _ => none) else none
        | _ => none
      | none => none
    | _, _, _ => none
  | _ => none

section
variable {P : Program} {cx : Cx} {B ng : Nat} {ρ : Env} {t : TM} {m : Mem} {nx : Nat} {a : Act}

/-- a new block: where its keys lie -/
theorem new_writes {o : Oper} {v : SV} {L : List Seg} (elem : TypeId) (cells : Array Value) (hv : v.lt (nx + L.length) = true)
    (hL : ∀ s ∈ L, s.own = true ∧ s.d.len = s.n ∧ s.d.lt nx = true ∧ True) (hlast : ∀ i s, L[i]? = some s → s.nxt = true → i + 1 < L.length) (hc : cells.toList = L.flatMap (fun s => s.d.cells ρ))
    (hrun : ∀ w, MemOk B ng ρ m nx w → ∃ u, (execOp a.eval o).run P w = .ok (.value u) (w.alloc (.cells cells elem)) ∧ ∀ ρ' : Env, ρ' nx = ⟨w.heap.size, 0, capAt L 0, false⟩ → v.den ρ' = u) :
    Writes P B ng ρ m nx a o v (addM nx L m) (nx + L.length) := by
  refine ⟨hv, fun w hw => ?_⟩
  obtain ⟨u, hu1, hu2⟩ := hrun w hw
  have hp := PostM.new hw L elem cells hL hlast hc
  refine ⟨_, _, .inl ?_, hp⟩
  rw [hu1, hu2 _ (by simp [offs])]

theorem zero_run {ty : TypeId} {ti : TyI} (hok : TyOk P ty ti) (hne : ti.z ≠ []) (ρ : Env) : ∃ zv, (∀ w, (zeroValue ty).run P w = .ok zv w) ∧ zv.cells = (pcells ρ ti.z).toArray := by
  obtain ⟨inf, hinf, hsz, hz⟩ := hok.size
  obtain ⟨zv, hzv, hc⟩ := hz hne
  refine ⟨zv, fun w => by simp [zeroValue, run_typeInfo w hinf, hzv], ?_⟩
  rw [hc]
  congr 1
  unfold pcells
  have : ti.z.map (SegD.cells (fun _ => ⟨0, 0, 0, false⟩)) = ti.z.map (SegD.cells ρ) :=
    List.map_congr_left fun d hd => SegD.cells_congr (n := 0) (fun k hk => absurd hk (Nat.not_lt_zero _)) (List.all_eq_true.1 hok.zwf d hd)
  simp only [List.flatMap, this]

theorem zlt {ty : TypeId} {ti : TyI} (hok : TyOk P ty ti) (n : Nat) : ti.z.all (SegD.lt n) = true :=
  List.all_eq_true.2 fun d hd => SegD.lt_mono (Nat.zero_le _) (List.all_eq_true.1 hok.zwf d hd)

theorem lensEq_refl : ∀ z, lensEq z z
  | [] => trivial
  | _ :: r => ⟨rfl, lensEq_refl r⟩

theorem mkSegs_ne {z l : List SegD} {L : List Seg} (h : mkSegs z l = some L) (hl : l ≠ []) : 0 < L.length := by
  cases l with
  | nil => exact absurd rfl hl
  | cons d r =>
    cases z with
    | nil => cases h
    | cons z zr =>
      simp only [mkSegs] at h
      split at h <;> first | (cases h; done) | skip
      cases h; simp

theorem alloc_writes (hT : TysOk P cx.T) {e : TypeId} {v : SV} {L : List Seg} {ob : List Prop} {o : Oper} (ho : o.op = .alloc e)
    (h : newM cx t nx (.alloc e) = some (v, L, ob)) : Writes P B ng ρ m nx a o v (addM nx L m) (nx + L.length) := by
  simp only [newM] at h
  split at h <;> first | (cases h; done) | skip
  rename_i ti hti
  have hok := hT e ti hti
  split at h <;> first | (cases h; done) | skip
  rename_i z0 zr L' hz hL
  cases h
  have hne : ti.z ≠ [] := by rw [hz]; simp
  obtain ⟨zv, z1, z2⟩ := zero_run hok hne ρ
  obtain ⟨m1, m2, m3, m4⟩ := mkSegs_spec _ _ _ hL (lensEq_refl _)
  have hpos := mkSegs_ne hL hne
  refine new_writes e zv.cells (blt_iff.2 (by omega)) (fun s hs => ⟨(m1 s hs).1, (m1 s hs).2.1, (m1 s hs).2.2 nx (zlt hok nx), trivial⟩) m2 (by rw [z2, m3 ρ]) (fun w hw => ⟨.pointer (some ⟨w.heap.size, 0, none⟩), ?_, fun ρ' hρ => ?_⟩)
  · simp only [execOp, ho, Instr.alloc, Sem.run_bind, z1, Result.andThen_ok, newVar, newRow, run_newObj, World.alloc_eq, Sem.run_pure]
  · simp [SV.den, SV0.den, Sc.den, hρ]

theorem box_writes (hT : TysOk P cx.T) (ht : TmOk ρ t nx a) (hg : GlOk cx ρ nx) {e : TypeId} {x : Operand} {v : SV} {L : List Seg} {ob : List Prop} {o : Oper} (ho : o.op = .box e x)
    (h : newM cx t nx (.box e x) = some (v, L, ob)) (hob : ∀ q ∈ ob, q) : Writes P B ng ρ m nx a o v (addM nx L m) (nx + L.length) := by
  simp only [newM] at h
  split at h <;> first | (cases h; done) | skip
  rename_i ti y hti hx
  obtain ⟨ex, lx⟩ := ev_den ht hg hx
  cases hb : (y.flat && !y.pieces.isEmpty) with
  | false =>
    rw [hb, cond_false] at h
    split at h <;> first | (cases h; done) | skip
    cases h
    refine new_writes e ((SV0.ag []).den ρ).cells (blt_iff.2 (by simp)) (fun s hs => by simp at hs; subst hs; exact ⟨rfl, rfl, rfl, trivial⟩) (fun i s hs hx => by
      cases i with
      | zero => simp at hs; subst hs; cases hx
      | succ i => simp at hs) rfl (fun w hw => ⟨.pointer (some ⟨w.heap.size, 0, none⟩), ?_, fun ρ' hρ => ?_⟩)
    · have ex' : a.eval x = (SV0.ag []).den ρ := ex
      simp only [execOp, ho, ex', Instr.box, Sem.run_bind, Result.andThen_ok, newVar, newRow, run_newObj, World.alloc_eq, Sem.run_pure]
    · simp [SV.den, SV0.den, Sc.den, hρ]
  | true =>
    rw [hb, cond_true] at h
    simp only [Bool.and_eq_true, Bool.not_eq_true', List.isEmpty_eq_false_iff] at hb
    obtain ⟨hf, hne⟩ := hb
    split at h <;> first | (cases h; done) | skip
    rename_i L' _ ob' hL hn
    cases h
    obtain ⟨_, hlens⟩ := need_spec hn hob
    obtain ⟨m1, m2, m3, m4⟩ := mkSegs_spec _ _ _ hL hlens
    obtain ⟨p1, p2⟩ := SV0.pieces_spec y
    have ly : y.lt nx = true := lx
    have ex' : a.eval x = y.den ρ := ex
    have hc : (y.den ρ).cells.toList = L.flatMap (fun s => s.d.cells ρ) := by rw [m3 ρ, p1 ρ, SV0.cells_den hf ρ]
    have hpos := mkSegs_ne hL hne
    refine new_writes e (y.den ρ).cells (blt_iff.2 (by omega)) (fun s hs => ⟨(m1 s hs).1, (m1 s hs).2.1, (m1 s hs).2.2 nx (p2 nx ly), trivial⟩) m2 hc (fun w hw => ⟨.pointer (some ⟨w.heap.size, 0, none⟩), ?_, fun ρ' hρ => ?_⟩)
    · simp only [execOp, ho, ex', Instr.box, Sem.run_bind, Result.andThen_ok, newVar, newRow, run_newObj, World.alloc_eq, Sem.run_pure]
    · simp [SV.den, SV0.den, Sc.den, hρ]

theorem repl_cells (zc : Array Value) (v : Value) (hz : zc = #[v]) (n : Nat) : (Array.range n).map (fun i => zc[i % zc.size]!) = (List.replicate n v).toArray := by
  subst hz
  apply Array.ext'
  rw [Array.toList_map, Array.toList_range]
  apply List.ext_getElem
  · simp
  · intro i h1 h2
    simp [Nat.mod_one]


theorem buildSlice_writes (hT : TysOk P cx.T) (ht : TmOk ρ t nx a) (hg : GlOk cx ρ nx) {ty : TypeId} {n : Nat} {ps : Array (Nat × Operand)} {v : SV} {L : List Seg} {ob : List Prop} {o : Oper} (ho : o.op = .buildSlice ty n ps)
    (h : newM cx t nx (.buildSlice ty n ps) = some (v, L, ob)) : Writes P B ng ρ m nx a o v (addM nx L m) (nx + L.length) := by
  simp only [newM] at h
  split at h <;> first | (cases h; done) | skip
  rename_i e es ea eb hty
  obtain ⟨i, hi, hok⟩ := tyOf_ok hT hty
  have hd := hok.desc
  rw [hi] at hd
  obtain ⟨hu, ⟨inf, hinf, hsz, _⟩, _⟩ := hd
  split at h <;> first | (cases h; done) | skip
  rename_i ti hti
  have hoke := hT e ti hti
  split at h <;> first | (cases h; done) | skip
  rename_i zd hz
  cases hb : (Nat.beq es 1 && Nat.beq zd.len 1 && Nat.ble n 16777216) with
  | false => rw [hb] at h; cases h
  | true =>
    rw [hb, cond_true] at h
    simp only [Bool.and_eq_true] at hb
    obtain ⟨⟨b1, b2⟩, b3⟩ := hb
    have hes : es = 1 := Nat.eq_of_beq_eq_true b1
    have hn : n ≤ 16777216 := Nat.le_of_ble_eq_true b3
    subst hes
    split at h <;> first | (cases h; done) | skip
    rename_i d qs hd hqs
    split at h <;> first | (cases h; done) | skip
    rename_i d' hd'
    obtain ⟨r1, r2, r3⟩ := SegD.rep_spec hd
    obtain ⟨f1, f2, f3⟩ := fill_splice (a := a) (ρ := ρ) _ ps.toList qs [d] [d'] ht hg hqs hd'
    obtain ⟨zv, z1, z2⟩ := zero_run hoke (by rw [hz]; simp) ρ
    obtain ⟨cv, c1, c2⟩ := r2 ρ
    have hzlt := zlt hoke nx
    rw [hz] at hzlt
    have hzl : zd.lt nx = true := by simpa using hzlt
    have hd'l : d'.lt nx = true := by have := f3 (by simpa using r3 nx hzl); simpa using this
    have hlen : d'.len = n := by simpa [plen, r1] using f2
    have hzc : zv.cells = #[cv] := by rw [z2, hz]; simp [pcells, c1]
    have hpc : (pcells ρ [d]).toArray = (List.replicate n cv).toArray := by simp [pcells, c2]
    have hparts : (ps.map fun (e : Nat × Operand) => (e.1, a.eval e.2)).toList = ps.toList.map fun (e : Nat × Operand) => (e.1, a.eval e.2) := by simp
    have hfill : Instr.fill (fun i => some (i * inf.size, inf.size)) (List.replicate n cv).toArray (ps.map fun (e : Nat × Operand) => (e.1, a.eval e.2)).toList = some (d'.cells ρ).toArray := by
      rw [hparts, hsz, ← hpc, f1]
      simp [pcells]
    have hrun : ∀ w, (execOp a.eval o).run P w = .ok (.value (.slice (some ⟨w.heap.size, 0, none⟩) n n)) (w.alloc (.cells (d'.cells ρ).toArray e)) := by
      intro w
      have hs := run_sizeOf_of (P := P) hinf w
      have hnn : ¬ (n * inf.size > 2 ^ 24) := by rw [hsz]; omega
      by_cases hz0 : n * inf.size = 0
      · have hn0 : n = 0 := by rw [hsz] at hz0; omega
        have hgt : ¬ (0 > 2 ^ 24) := by decide
        have hr : (Array.range 0).map (fun i => (#[] : Array Value)[i % (#[] : Array Value).size]!) = (List.replicate n cv).toArray := by simp [hn0]
        simp only [execOp, ho, Instr.buildSlice, Sem.run_bind, run_underlying hu, Result.andThen_ok, hs, hz0, hgt, if_false, if_true, Sem.run_pure, pure_bind]
        rw [hr, hfill]
        simp only [Sem.run_pure, Result.andThen_ok, Sem.run_bind, newRow, run_newObj, World.alloc_eq]
      · have hr : (Array.range (n * inf.size)).map (fun i => zv.cells[i % zv.cells.size]!) = (List.replicate n cv).toArray := by
          rw [hsz, Nat.mul_one]; exact repl_cells zv.cells cv hzc n
        simp only [execOp, ho, Instr.buildSlice, Sem.run_bind, run_underlying hu, Result.andThen_ok, hs, hnn, if_false, hz0, z1, Sem.run_pure, bind_assoc, pure_bind]
        rw [hr, hfill]
        simp only [Sem.run_pure, Result.andThen_ok, Sem.run_bind, newRow, run_newObj, World.alloc_eq]
    cases hn0 : Nat.beq n 0 with
    | true =>
      rw [hn0, cond_true] at h
      cases h
      have hn0' : n = 0 := Nat.eq_of_beq_eq_true hn0
      refine new_writes e (d'.cells ρ).toArray (blt_iff.2 (by simp)) (fun s hs => ?_) (fun i s hi hnx => ?_) (by simp) (fun w hw => ⟨.slice (some ⟨w.heap.size, 0, none⟩) n n, hrun w, fun ρ' hρ => ?_⟩)
      · simp only [List.mem_singleton] at hs; subst hs; exact ⟨rfl, by simpa [hn0'] using hlen, hd'l, trivial⟩
      · cases i with
        | zero => simp only [List.getElem?_cons_zero, Option.some.injEq] at hi; subst hi; cases hnx
        | succ i => simp at hi
      · simp [SV.den, SV0.den, Sc.den, hρ, capAt, hn0']
    | false =>
      rw [hn0, cond_false] at h
      cases h
      refine new_writes e (d'.cells ρ).toArray (blt_iff.2 (by simp)) (fun s hs => ?_) (fun i s hi hnx => ?_) (by simp) (fun w hw => ⟨.slice (some ⟨w.heap.size, 0, none⟩) n n, hrun w, fun ρ' hρ => ?_⟩)
      · simp only [List.mem_singleton] at hs; subst hs; exact ⟨rfl, hlen, hd'l, trivial⟩
      · cases i with
        | zero => simp only [List.getElem?_cons_zero, Option.some.injEq] at hi; subst hi; cases hnx
        | succ i => simp at hi
      · simp [SV.den, SV0.den, Sc.den, hρ]

theorem makeSlice_writes (hT : TysOk P cx.T) (ht : TmOk ρ t nx a) (hg : GlOk cx ρ nx) {ty : TypeId} {l c : Operand} {v : SV} {L : List Seg} {ob : List Prop} {o : Oper} (ho : o.op = .makeSlice ty l c)
    (h : newM cx t nx (.makeSlice ty l c) = some (v, L, ob)) (hob : ∀ q ∈ ob, q) : Writes P B ng ρ m nx a o v (addM nx L m) (nx + L.length) := by
  simp only [newM] at h
  split at h <;> first | (cases h; done) | skip
  rename_i e es ea eb n n' hty hl hc
  obtain ⟨i, hi, hok⟩ := tyOf_ok hT hty
  have hd := hok.desc
  rw [hi] at hd
  obtain ⟨hu, ⟨inf, hinf, hsz, hby⟩, _⟩ := hd
  obtain ⟨el, _⟩ := evs_den ht hg hl
  obtain ⟨ec, _⟩ := evs_den ht hg hc
  split at h <;> first | (cases h; done) | skip
  rename_i ti hti
  have hoke := hT e ti hti
  split at h <;> first | (cases h; done) | skip
  rename_i zd hz
  cases hb : (Nat.beq es 1 && Nat.beq zd.len 1) with
  | false => rw [hb] at h; cases h
  | true =>
    rw [hb, cond_true] at h
    simp only [Bool.and_eq_true] at hb
    obtain ⟨b1, b2⟩ := hb
    have hes : es = 1 := Nat.eq_of_beq_eq_true b1
    subst hes
    split at h <;> first | (cases h; done) | skip
    rename_i d _ ob' hd hn
    cases h
    obtain ⟨_, hn0, hnn, hn1, hn2⟩ := need_spec hn hob
    rw [hnn] at ec
    obtain ⟨r1, r2, r3⟩ := SegD.rep_spec hd
    obtain ⟨zv, z1, z2⟩ := zero_run hoke (by rw [hz]; simp) ρ
    obtain ⟨cv, c1, c2⟩ := r2 ρ
    have hzlt := zlt hoke nx
    rw [hz] at hzlt
    have hzl : zd.lt nx = true := by simpa using hzlt
    have hzc : zv.cells = #[cv] := by rw [z2, hz]; simp [pcells, c1]
    have hrng : rng n := by unfold rng; omega
    have hrun : ∀ w, (execOp a.eval o).run P w = .ok (.value (.slice (some ⟨w.heap.size, 0, none⟩) n.toNat n.toNat)) (w.alloc (.cells (d.cells ρ).toArray e)) := by
      intro w
      have hs := run_sizeOf_of (P := P) hinf w
      have ht' := run_typeInfo (P := P) w hinf
      have hlarge : (decide (n < 0) || decide ((inf.bytes : Int) * n > 2 ^ 48)) = false := by
        rw [hby]; simp; omega
      have hcond : ((decide (n < 0) || decide ((inf.bytes : Int) * n > 2 ^ 48)) || decide (n < 0) || decide (n > n)) = false := by
        rw [hlarge]; simp; omega
      have hcells : ((Array.range (n.toNat * inf.size)).map (fun i => zv.cells[i % zv.cells.size]!)) = (d.cells ρ).toArray := by
        rw [hsz, Nat.mul_one, repl_cells zv.cells cv hzc, c2]
      simp only [execOp, ho, el, ec, Sc.den, Instr.makeSlice, asInt, asIntOf, Sem.run_bind, run_underlying hu, Result.andThen_ok, Sem.run_pure, ht', wrap_rng hrng, hcond, Bool.false_eq_true, if_false, run_askRoom, hs]
      by_cases hz0 : n.toNat * inf.size = 0
      · have hnz : n.toNat = 0 := by rw [hsz] at hz0; omega
        have hr : (Array.range 0).map (fun i => (#[] : Array Value)[i % (#[] : Array Value).size]!) = (d.cells ρ).toArray := by rw [c2, hnz]; simp
        simp only [hz0, if_true, Sem.run_pure, Result.andThen_ok, hr, newRow, Sem.run_bind, run_newObj, World.alloc_eq]
      · simp only [hz0, if_false, Sem.run_bind, z1, Sem.run_pure, Result.andThen_ok, hcells, newRow, run_newObj, World.alloc_eq]
    refine new_writes e (d.cells ρ).toArray (blt_iff.2 (by simp)) (fun s hs => ?_) (fun i s hi hnx => ?_) (by simp) (fun w hw => ⟨.slice (some ⟨w.heap.size, 0, none⟩) n.toNat n.toNat, hrun w, fun ρ' hρ => ?_⟩)
    · simp only [List.mem_singleton] at hs; subst hs; exact ⟨rfl, r1, r3 nx hzl, trivial⟩
    · cases i with
      | zero => simp only [List.getElem?_cons_zero, Option.some.injEq] at hi; subst hi; cases hnx
      | succ i => simp at hi
    · simp [SV.den, SV0.den, Sc.den, hρ]

theorem new_all (hT : TysOk P cx.T) (ht : TmOk ρ t nx a) (hg : GlOk cx ρ nx) {v : SV} {L : List Seg} {ob : List Prop} {o : Oper}
    (h : newM cx t nx o.op = some (v, L, ob)) (hob : ∀ q ∈ ob, q) : Writes P B ng ρ m nx a o v (addM nx L m) (nx + L.length) := by
  cases ho : o.op <;> rw [ho] at h
  case alloc e => exact alloc_writes hT ho h
  case box e x => exact box_writes hT ht hg ho h hob
  case buildSlice ty n ps => exact buildSlice_writes hT ht hg ho h
  case makeSlice ty l c => exact makeSlice_writes hT ht hg ho h hob
  all_goals (simp only [newM] at h; cases h)

end
end Go.Sx
