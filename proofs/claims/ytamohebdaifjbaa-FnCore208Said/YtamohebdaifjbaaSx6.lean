/- Soundness of the symbolic run of the model's computing operations: the rest, and all in one. Conditions: none; plain theorems over any program. -/
import Derived.Test.YtamohebdaifjbaaSx5b
set_option linter.unusedVariables false
namespace Go.Sx
open Go.RowKit

section
variable {P : Program} {cx : Cx} {ρ : Env} {t : TM} {m : Mem} {nx : Nat} {a : Act}

theorem loadX_lt {d : SegD} {n k : Nat} {x : Sc} {ob : List Prop} (h : loadX cx d n = some (x, ob)) (hob : ∀ q ∈ ob, q) (hd : d.lt k = true) : x.lt k = true :=
  SegD.scs_lt hd x (List.mem_of_getElem? (loadX_spec h hob))

theorem index_comp (hT : TysOk P cx.T) (ht : TmOk ρ t nx a) (hg : GlOk cx ρ nx) {ty : TypeId} {x i : Operand} {r : SV} {ob : List Prop} {o : Oper} (ho : o.op = .index ty x i)
    (h : pureX cx t m (.index ty x i) = some (r, ob)) (hob : ∀ q ∈ ob, q) : Comp P ρ nx a o r := by
  simp only [pureX] at h
  split at h <;> first | (cases h; done) | skip
  · rename_i n e es d j hty hx hi
    obtain ⟨q, hq, hok⟩ := tyOf_ok hT hty
    have hd := hok.desc
    rw [hq] at hd
    obtain ⟨hu, ⟨inf, hinf, hsz⟩, dd, hd1, hd2⟩ := hd
    obtain ⟨ex, lx⟩ := ev_den ht hg hx
    obtain ⟨ei, _⟩ := evs_den ht hg hi
    cases he : Nat.beq es 1 with
    | false => rw [he] at h; cases h
    | true =>
      rw [he, cond_true] at h
      have he1 : es = 1 := Nat.eq_of_beq_eq_true he
      split at h <;> first | (cases h; done) | skip
      rename_i _ ob1 y ob2 h1 h2
      cases h
      obtain ⟨_, hb⟩ := need_spec h1 (fun p hp => hob p (List.mem_append_left _ hp))
      have hy := loadX_spec h2 (fun p hp => hob p (List.mem_append_right _ hp))
      have lx' : d.lt nx = true := by simpa [SV.lt, SV0.lt] using lx
      refine .of (SegD.scs_lt lx' y (List.mem_of_getElem? hy)) fun w => ?_
      have ex' : a.eval x = .agg (d.cells ρ).toArray := by rw [ex]; simp [SV.den, SV0.den]
      have hc : (d.cells ρ)[j.toNat]? = some (y.den ρ) := by rw [SegD.cells, List.getElem?_map, hy]; rfl
      have hs := run_sizeOf_of (P := P) hinf w
      have hp := run_part_sc (P := P) hd1 hd2 hc w
      simp [execOp, ho, ex', ei, Sc.den, Instr.index, asIntOf, run_underlying hu, hb, hs, hsz, he1, hp]
      rfl
  · rename_i n e es d j hty hx hi
    obtain ⟨q, hq, hok⟩ := tyOf_ok hT hty
    have hd := hok.desc
    rw [hq] at hd
    obtain ⟨hu, ⟨inf, hinf, hsz⟩, dd, hd1, hd2⟩ := hd
    obtain ⟨ex, lx⟩ := ev_den ht hg hx
    obtain ⟨ei, _⟩ := evs_den ht hg hi
    obtain ⟨rfl, hb⟩ := need_spec h hob
    have lx' : d.lt nx = true := by simpa [SV.lt, SV0.lt] using lx
    refine .of (by simp [SV.lt, SV0.lt, SegD.sub_lt lx']) fun w => ?_
    have ex' : a.eval x = .agg (d.cells ρ).toArray := by rw [ex]; simp [SV.den, SV0.den]
    have hs := run_sizeOf_of (P := P) hinf w
    have hp := run_part_agg (P := P) hd1 hd2 hinf (d.cells ρ) (j.toNat * es) w
    simp only [execOp, ho, ex', ei, Sc.den, Instr.index, asIntOf, Sem.run_bind, Sem.run_pure, Result.andThen_ok, run_underlying hu, hb, and_self, if_true, hs, hsz, hp]
    simp only [SV.den, SV0.den, List.flatMap_cons, List.flatMap_nil, List.append_nil, SegD.cells, SegD.sub_scs, List.map_take, List.map_drop]

theorem extract_comp (ht : TmOk ρ t nx a) (hg : GlOk cx ρ nx) {x : Operand} {i : Nat} {r : SV} {ob : List Prop} {o : Oper} (ho : o.op = .extract x i)
    (h : pureX cx t m (.extract x i) = some (r, ob)) : Comp P ρ nx a o r := by
  simp only [pureX] at h
  split at h <;> first | (cases h; done) | skip
  rename_i l hx
  obtain ⟨ex, lx⟩ := ev_den ht hg hx
  split at h <;> first | (cases h; done) | skip
  rename_i v hv
  cases h
  refine .of (List.all_eq_true.1 lx v (List.mem_of_getElem? hv)) fun w => ?_
  simp [execOp, ho, ex, SV.den, Instr.extract, hv]

theorem nilAhead_mp {ty e : TypeId} {i : TypeInfo} {r : Method} {n : String} {f : FuncId} (hi : P.info? ty = some i) (hm : i.methods.find? (·.name == n) = some r) (hp : r.path = #[]) (hf : r.func = some (f, true)) (v : Value) (k : Nat) (w : World) :
    (nilAhead (k + Made.depth) ty v n).run P w = .ok (some false) w := by
  have hd : k + Made.depth = (k + (Made.depth - 1)) + 1 := by simp only [Made.depth]
  rw [hd]
  simp [nilAhead, typeInfo, hi, hm, hp, hf, followBlind]
theorem method_mp {ty e : TypeId} {i : TypeInfo} {r : Method} {n : String} {f : FuncId} (hu : P.underlying ty = some (.pointer e)) (hi : P.info? ty = some i) (hm : i.methods.find? (·.name == n) = some r) (hp : r.path = #[]) (hf : r.func = some (f, true)) (v : Value) (k : Nat) (w : World) :
    (method (k + Made.depth) ty v n).run P w = .ok (f, v) w := by
  have hd : k + Made.depth = (k + (Made.depth - 1)) + 1 := by simp only [Made.depth]
  rw [hd]
  simp [method, typeInfo, hi, hm, hp, hf, follow, receiverAt, run_underlying hu, Place.get]
theorem nilCheck_comp (hT : TysOk P cx.T) (ht : TmOk ρ t nx a) (hg : GlOk cx ρ nx) {x : Operand} {r : SV} {ob : List Prop} {o : Oper} (ho : o.op = .nilCheck x)
    (h : pureX cx t m (.nilCheck x) = some (r, ob)) (hob : ∀ q ∈ ob, q) : Comp P ρ nx a o r := by
  simp only [pureX] at h
  split at h <;> first | (cases h; done) | skip
  · rename_i k off hx
    obtain ⟨ex, lx⟩ := evs_den ht hg hx
    cases h
    exact .of lx fun w => by simp [execOp, ho, ex, Sc.den, SV.den, SV0.den]
  · rename_i ty y hx
    obtain ⟨ex, lx⟩ := evs_den ht hg hx
    cases h
    exact .of lx fun w => by simp [execOp, ho, ex, Sc.den, SV.den, SV0.den]
  · rename_i n ty y hx
    obtain ⟨ex, lx⟩ := evs_den ht hg hx
    split at h <;> first | (cases h; done) | skip
    rename_i n' f hty
    cases h
    have hn : n = n' := hob (n = n') (by simp)
    subst hn
    obtain ⟨ti, hti, hok⟩ := tyOf_ok hT hty
    have hd := hok.desc
    rw [hti] at hd
    obtain ⟨e, i, r, hu, hi, hm, hp, hf⟩ := hd
    refine .of lx fun w => ?_
    have hr := nilAhead_mp (P := P) (e := e) hi hm hp hf (y.den ρ) P.types.size w
    simp [execOp, ho, ex, Sc.den, SV.den, SV0.den, hr]

theorem pick_comp (ht : TmOk ρ t nx a) (hg : GlOk cx ρ nx) {c x y : Operand} {r : SV} {ob : List Prop} {o : Oper} (ho : o.op = .pick c x y)
    (h : pureX cx t m (.pick c x y) = some (r, ob)) (hob : ∀ q ∈ ob, q) : Comp P ρ nx a o r := by
  simp only [pureX] at h
  split at h <;> first | (cases h; done) | skip
  rename_i p hc
  obtain ⟨ec, _⟩ := evs_den ht hg hc
  split at h <;> first | (cases h; done) | skip
  · rename_i q q' hx hy
    obtain ⟨ex, _⟩ := ev_den ht hg hx
    obtain ⟨ey, _⟩ := ev_den ht hg hy
    cases h
    refine .of rfl fun w => ?_
    cases p <;> simp [execOp, ho, ec, ex, ey, Sc.den, SV.den, SV0.den, asBool]
  · rename_i q v _ hx hy
    obtain ⟨ex, _⟩ := ev_den ht hg hx
    obtain ⟨rfl, hp⟩ := need_spec h hob
    subst hp
    refine .of rfl fun w => ?_
    simp [execOp, ho, ec, ex, Sc.den, SV.den, SV0.den, asBool]
  · rename_i v q _ hx hy
    obtain ⟨ey, _⟩ := ev_den ht hg hy
    obtain ⟨rfl, hp⟩ := need_spec h hob
    subst hp
    refine .of rfl fun w => ?_
    simp [execOp, ho, ec, ey, Sc.den, SV.den, SV0.den, asBool]

theorem sl2ap_comp (hT : TysOk P cx.T) (ht : TmOk ρ t nx a) (hg : GlOk cx ρ nx) (hst : StatOk ρ m) {ty : TypeId} {x : Operand} {r : SV} {ob : List Prop} {o : Oper} (ho : o.op = .sliceToArrayPointer ty x)
    (h : pureX cx t m (.sliceToArrayPointer ty x) = some (r, ob)) (hob : ∀ q ∈ ob, q) : Comp P ρ nx a o r := by
  simp only [pureX] at h
  split at h <;> first | (cases h; done) | skip
  · rename_i n e es ea k off len cap hty hx
    obtain ⟨q, hq, hok⟩ := tyOf_ok hT hty
    have hd := hok.desc
    rw [hq] at hd
    obtain ⟨ex, lx⟩ := evs_den ht hg hx
    obtain ⟨rfl, hb⟩ := need_spec h hob
    refine .of lx fun w => ?_
    have hb' : ¬ len < n := by omega
    simp [execOp, ho, ex, Sc.den, SV.den, SV0.den, Instr.arrayAt, run_underlying hd.1, hb']
  · rename_i n e es ea k len hty hx
    obtain ⟨q, hq, hok⟩ := tyOf_ok hT hty
    have hd := hok.desc
    rw [hq] at hd
    obtain ⟨ex, lx⟩ := evs_den ht hg hx
    split at h <;> first | (cases h; done) | skip
    rename_i s hs
    obtain ⟨rfl, hb⟩ := need_spec h hob
    have hnil : (ρ k).isNil = false := by
      cases hn : (ρ k).isNil with
      | false => rfl
      | true => have := hst.nil k s hs hn; have := hst.cap k s hs; omega
    refine .of lx fun w => ?_
    have hb' : ¬ len < n := by omega
    simp [execOp, ho, ex, Sc.den, SV.den, SV0.den, Instr.arrayAt, run_underlying hd.1, hb', hnil]

theorem makeIface_comp (hT : TysOk P cx.T) (ht : TmOk ρ t nx a) (hg : GlOk cx ρ nx) {ty : TypeId} {x : Operand} {r : SV} {ob : List Prop} {o : Oper} (ho : o.op = .makeInterface ty x)
    (h : pureX cx t m (.makeInterface ty x) = some (r, ob)) : Comp P ρ nx a o r := by
  simp only [pureX] at h
  split at h <;> first | (cases h; done) | skip
  · rename_i e v hty hx
    obtain ⟨q, hq, hok⟩ := tyOf_ok hT hty
    have hd := hok.desc
    rw [hq] at hd
    obtain ⟨ex, lx⟩ := evs_den ht hg hx
    cases h
    refine .of lx fun w => ?_
    simp [execOp, ho, ex, SV.den, SV0.den, Sc.den, Instr.makeInterface, run_underlying hd]
  · rename_i n f v hty hx
    obtain ⟨q, hq, hok⟩ := tyOf_ok hT hty
    have hd := hok.desc
    rw [hq] at hd
    obtain ⟨e, i, r, hu, _⟩ := hd
    obtain ⟨ex, lx⟩ := evs_den ht hg hx
    cases h
    refine .of lx fun w => ?_
    simp [execOp, ho, ex, SV.den, SV0.den, Sc.den, Instr.makeInterface, run_underlying hu]

/-! ### Building an aggregate -/

theorem foldl_splice (off : Nat) : ∀ (vs : List Value) (j : Nat) (cs : Array Value), off + j + vs.length ≤ cs.size →
    ((vs.zipIdx j).foldl (fun (cs : Array Value) (e : Value × Nat) => cs.setIfInBounds (off + e.2) e.1) cs).toList = splice cs.toList (off + j) vs
  | [], j, cs, h => by
    simp [splice]
  | v :: vs, j, cs, h => by
    simp only [List.length_cons] at h
    simp only [List.zipIdx_cons, List.foldl_cons]
    rw [foldl_splice off vs (j + 1) _ (by simp; omega)]
    apply List.ext_getElem?
    intro q
    have hl1 : (cs.setIfInBounds (off + j) v).toList.length = cs.size := by simp
    rcases Nat.lt_or_ge q (off + j) with h1 | h1
    · rw [splice_get_out _ _ _ (by rw [hl1]; omega) q (by omega), splice_get_out _ _ _ (by simp; omega) q (by omega)]
      simp only [Array.toList_setIfInBounds]
      rw [List.getElem?_set_ne (by omega)]
    · rcases Nat.lt_or_ge q (off + j + (vs.length + 1)) with h2 | h2
      · have e2 := splice_get_in cs.toList (off + j) (v :: vs) (by simp; omega) (q - (off + j)) (by simp; omega)
        rw [show off + j + (q - (off + j)) = q by omega] at e2
        rw [e2]
        by_cases h3 : q = off + j
        · subst h3
          rw [splice_get_out _ _ _ (by rw [hl1]; omega) _ (by omega)]
          simp only [Array.toList_setIfInBounds]
          rw [List.getElem?_set_self (by simp; omega)]
          simp
        · have e3 := splice_get_in (cs.setIfInBounds (off + j) v).toList (off + (j + 1)) vs (by rw [hl1]; omega) (q - (off + (j + 1))) (by omega)
          rw [show off + (j + 1) + (q - (off + (j + 1))) = q by omega] at e3
          rw [e3, show q - (off + j) = (q - (off + (j + 1))) + 1 by omega, List.getElem?_cons_succ]
      · rw [splice_get_out _ _ _ (by rw [hl1]; omega) q (by omega), splice_get_out _ _ _ (by simp; omega) q (by simp; omega)]
        simp only [Array.toList_setIfInBounds]
        rw [List.getElem?_set_ne (by omega)]

theorem fill_splice (pl : Nat → Option (Nat × Nat)) {ρ : Env} : ∀ (ps : List (Nat × Operand)) (qs : List (Nat × SV0)) (z l : List SegD), TmOk ρ t nx a → GlOk cx ρ nx →
    partsX cx t pl ps = some qs → buildX z qs = some l →
    Instr.fill pl (pcells ρ z).toArray (ps.map fun (e : Nat × Operand) => (e.1, a.eval e.2)) = some (pcells ρ l).toArray ∧ plen l = plen z ∧ (z.all (SegD.lt nx) = true → l.all (SegD.lt nx) = true)
  | [], qs, z, l, ht, hg, h1, h2 => by
    cases h1
    cases h2
    exact ⟨rfl, rfl, id⟩
  | (i, x) :: ps, qs, z, l, ht, hg, h1, h2 => by
    simp only [partsX] at h1
    split at h1 <;> first | (cases h1; done) | skip
    rename_i off sz v r' hpl hx hr
    cases hc : (Nat.beq v.len sz && v.flat) with
    | false => rw [hc] at h1; cases h1
    | true =>
    rw [hc, cond_true] at h1
    simp only [Bool.and_eq_true] at hc
    cases h1
    simp only [buildX] at h2
    split at h2 <;> first | (cases h2; done) | skip
    rename_i z' hz
    obtain ⟨ex, lx⟩ := ev_den ht hg hx
    have lx' : v.lt nx = true := lx
    obtain ⟨p1, p2, p3, p4⟩ := pput_spec z off v z' hz
    have hsz : v.len = sz := Nat.eq_of_beq_eq_true hc.1
    obtain ⟨i1, i2, i3⟩ := fill_splice pl ps r' z' l ht hg hr h2
    have hcells : (v.den ρ).cells.toList = v.cellsOf ρ := SV0.cells_den hc.2 ρ
    have hlen : (v.den ρ).cells.size = sz := by rw [← Array.length_toList, hcells, SV0.cellsOf_length, hsz]
    refine ⟨?_, i2.trans p3, fun hh => i3 (p4 nx hh lx')⟩
    simp only [List.map_cons, Instr.fill, hpl]
    have ex' : a.eval x = v.den ρ := ex
    rw [ex', hlen]
    have hsz2 : (pcells ρ z).toArray.size = plen z := by simp [pcells_length]
    have hcond : (decide (sz ≠ sz) || decide (off + sz > (pcells ρ z).toArray.size)) = false := by
      rw [hsz2]; simp; omega
    rw [hcond]
    simp only [Bool.false_eq_true, if_false]
    rw [← i1]
    congr 1
    apply Array.ext'
    rw [p1 ρ, ← hcells]
    have := foldl_splice off (v.den ρ).cells.toList 0 (pcells ρ z).toArray (by rw [hsz2, Array.length_toList, hlen]; omega)
    simp only [Nat.add_zero] at this
    rw [← this, ← Array.foldl_toList, Array.toList_zipIdx]

theorem run_mapM {α β : Type} {f : α → Sem β} {g : α → β} {w : World} : ∀ (l : List α), (∀ x ∈ l, (f x).run P w = .ok (g x) w) → (l.mapM f).run P w = .ok (l.map g) w
  | [], _ => by simp
  | x :: l, h => by
    have ih := run_mapM l (fun y hy => h y (by simp [hy]))
    simp [List.mapM_cons, h x (by simp), ih]

theorem build_comp (hT : TysOk P cx.T) (ht : TmOk ρ t nx a) (hg : GlOk cx ρ nx) {ty : TypeId} {ps : Array (Nat × Operand)} {r : SV} {ob : List Prop} {o : Oper} (ho : o.op = .build ty ps)
    (h : pureX cx t m (.build ty ps) = some (r, ob)) : Comp P ρ nx a o r := by
  simp only [pureX] at h
  split at h <;> first | (cases h; done) | skip
  rename_i ti hti
  have hok := hT ty ti hti
  split at h <;> first | (cases h; done) | skip
  rename_i qs hqs
  obtain ⟨inf, hinf, hsz, hz⟩ := hok.size
  have hzwf := hok.zwf
  have hdesc := hok.desc
  have zlt : ti.z.all (SegD.lt nx) = true := List.all_eq_true.2 fun d hd => SegD.lt_mono (Nat.zero_le _) (List.all_eq_true.1 hzwf d hd)
  have hz' : ti.z ≠ [] → ∃ zv, (∀ w, (zeroValue ty).run P w = .ok zv w) ∧ zv.cells = (pcells ρ ti.z).toArray := by
    intro hne
    obtain ⟨zv, hzv, hc⟩ := hz hne
    refine ⟨zv, fun w => by simp [zeroValue, run_typeInfo w hinf, hzv], ?_⟩
    rw [hc]
    congr 1
    unfold pcells
    have : ti.z.map (SegD.cells (fun _ => ⟨0, 0, 0, false⟩)) = ti.z.map (SegD.cells ρ) :=
      List.map_congr_left fun d hd => SegD.cells_congr (n := 0) (fun k hk => absurd hk (Nat.not_lt_zero _)) (List.all_eq_true.1 hzwf d hd)
    simp only [List.flatMap, this]
  have hparts : (ps.map fun (e : Nat × Operand) => (e.1, a.eval e.2)).toList = ps.toList.map fun (e : Nat × Operand) => (e.1, a.eval e.2) := by simp
  split at h <;> first | (cases h; done) | skip
  · rename_i n e es ea hd
    rw [hd] at hdesc hqs
    obtain ⟨hu, ⟨j, hj, hjs⟩, _⟩ := hdesc
    split at h <;> first | (cases h; done) | skip
    rename_i l hl
    split at h <;> first | (cases h; done) | skip
    rename_i z0 zs hzz
    cases h
    obtain ⟨zv, z1, z2⟩ := hz' (by rw [hzz]; simp)
    obtain ⟨f1, f2, f3⟩ := fill_splice _ ps.toList qs ti.z l ht hg hqs hl
    refine .of (f3 zlt) fun w => ?_
    have hf : Instr.fill (fun i => some (i * j.size, j.size)) zv.cells (ps.map fun (e : Nat × Operand) => (e.1, a.eval e.2)).toList = some (pcells ρ l).toArray := by
      rw [z2, hparts, hjs]; exact f1
    simp only [execOp, ho, Instr.build, Sem.run_bind, z1, Result.andThen_ok, run_underlying hu, run_sizeOf_of (P := P) hj, hf, Sem.run_pure]
    rfl
  · rename_i fs hd
    rw [hd] at hdesc hqs
    obtain ⟨F, hu, hoff, hall⟩ := hdesc
    split at h <;> first | (cases h; done) | skip
    rename_i l hl
    split at h <;> first | (cases h; done) | skip
    rename_i z0 zs hzz
    cases h
    obtain ⟨zv, z1, z2⟩ := hz' (by rw [hzz]; simp)
    obtain ⟨f1, f2, f3⟩ := fill_splice _ ps.toList qs ti.z l ht hg hqs hl
    refine .of (f3 zlt) fun w => ?_
    have hmap : (F.mapM fun f => (do pure (f.offset, ← Go.sizeOf f.type) : Sem (Nat × Nat))).run P w = .ok ((fs.map fun x => (x.1, x.2.1)).toArray) w := by
      have hg : ∀ x ∈ F.toList, (do pure (x.offset, ← Go.sizeOf x.type) : Sem (Nat × Nat)).run P w = .ok (x.offset, P.cellsOf x.type) w := by
        intro x hx
        obtain ⟨i, hi⟩ := List.mem_iff_getElem?.1 hx
        rw [Array.getElem?_toList] at hi
        have hlen : F.toList.length = fs.length := by have := congrArg List.length hoff; simpa using this
        have hi2 : i < fs.length := by rw [← hlen]; simpa using (Array.getElem?_eq_some_iff.1 hi).1
        obtain ⟨⟨j, hj, _⟩, _⟩ := hall i x _ hi (List.getElem?_eq_getElem hi2)
        simp [run_sizeOf_of (P := P) hj, Program.cellsOf, hj]
      have hmm := run_mapM (P := P) (w := w) F.toList hg
      have hEq : F.toList.map (fun x => (x.offset, P.cellsOf x.type)) = fs.map fun x => (x.1, x.2.1) := by
        apply List.ext_getElem?
        intro i
        have ho := congrArg (fun l => l[i]?) hoff
        simp only [List.getElem?_map] at ho ⊢
        cases hF : F.toList[i]? with
        | none =>
          rw [hF] at ho
          simp only [Option.map_none] at ho
          cases hfs : fs[i]? with
          | none => rfl
          | some y => rw [hfs] at ho; simp at ho
        | some x =>
          rw [hF] at ho
          cases hfs : fs[i]? with
          | none => rw [hfs] at ho; simp at ho
          | some y =>
            rw [hfs] at ho
            simp only [Option.map_some, Option.some.injEq] at ho
            have hF' : F[i]? = some x := by rw [← Array.getElem?_toList]; exact hF
            obtain ⟨⟨j, hj, hjs⟩, _⟩ := hall i x y hF' hfs
            simp [ho, Program.cellsOf, hj, hjs]
      rw [hEq] at hmm
      rw [← Array.toArray_toList (xs := F), List.mapM_toArray, Sem.run_map, hmm]
      rfl
    have hf : Instr.fill (fun i => ((fs.map fun x => (x.1, x.2.1)).toArray)[i]?) zv.cells (ps.map fun (e : Nat × Operand) => (e.1, a.eval e.2)).toList = some (pcells ρ l).toArray := by
      rw [z2, hparts, ← f1]
      congr 1
      funext i
      simp only [List.getElem?_toArray, List.getElem?_map, Ty.place]
      cases fs[i]? with
      | none => rfl
      | some y => rfl
    simp only [execOp, ho, Instr.build, Sem.run_bind, z1, Result.andThen_ok, run_underlying hu, hmap, hf, Sem.run_pure]
    rfl

theorem builtin_comp (hT : TysOk P cx.T) (ht : TmOk ρ t nx a) (hg : GlOk cx ρ nx) {c : Call} {b : Builtin} {r : SV} {ob : List Prop} {o : Oper} (ho : o.op = .call c) (hc : c.callee = .builtin b)
    (h : biX cx t b (match c.argTypes[0]? with
      | some ty => tyOf cx ty
      | none => none) c.args.toList = some (r, ob)) : Comp P ρ nx a o r := by
  obtain ⟨cs, hex⟩ : ∃ cs, ∀ w, (execOp a.eval o).run P w = (Go.builtin b c.argTypes o.type cs (c.args.map a.eval)).run P w :=
    ⟨_, fun w => by simp only [execOp, ho, resolve, hc, Sem.run_bind, Sem.run_pure, Result.andThen_ok, invoke]; rfl⟩
  have one : ∀ x, c.args.toList = [x] → c.args.map a.eval = #[a.eval x] := fun x hx => by
    have : c.args = #[x] := by cases hh : c.args; simp_all
    simp [this]
  have two : ∀ x y, c.args.toList = [x, y] → c.args.map a.eval = #[a.eval x, a.eval y] := fun x y hx => by
    have : c.args = #[x, y] := by cases hh : c.args; simp_all
    simp [this]
  have ty0 : ∀ d, (match c.argTypes[0]? with
      | some ty => tyOf cx ty
      | none => none) = some d → ∃ ty i, c.argTypes[0]? = some ty ∧ i.d = d ∧ TyOk P ty i := by
    intro d hd
    split at hd
    · rename_i ty hty
      obtain ⟨i, h1, h2⟩ := tyOf_ok hT hd
      exact ⟨ty, i, hty, h1, h2⟩
    · cases hd
  unfold biX at h
  split at h <;> first | (cases h; done) | skip
  · rename_i x hargs
    have e1 := one x hargs
    split at h
    · rename_i e es ea eb k off len cap hty hx
      obtain ⟨ty, i, g1, g2, g3⟩ := ty0 _ hty
      have hd := g3.desc; rw [g2] at hd
      obtain ⟨ex, _⟩ := evs_den ht hg hx
      cases h
      refine .of rfl fun w => ?_
      rw [hex w, e1]
      simp [Go.builtin, Builtin.len_, g1, ex, run_underlying hd.1, Sc.den, SV.den, SV0.den, goInt]
    · rename_i e es ea eb k len hty hx
      obtain ⟨ty, i, g1, g2, g3⟩ := ty0 _ hty
      have hd := g3.desc; rw [g2] at hd
      obtain ⟨ex, _⟩ := evs_den ht hg hx
      cases h
      refine .of rfl fun w => ?_
      rw [hex w, e1]
      simp [Go.builtin, Builtin.len_, g1, ex, run_underlying hd.1, Sc.den, SV.den, SV0.den, goInt]
    · rename_i e es ea eb hty hx
      obtain ⟨ty, i, g1, g2, g3⟩ := ty0 _ hty
      have hd := g3.desc; rw [g2] at hd
      obtain ⟨ex, _⟩ := evs_den ht hg hx
      cases h
      refine .of rfl fun w => ?_
      rw [hex w, e1]
      simp [Go.builtin, Builtin.len_, g1, ex, run_underlying hd.1, Sc.den, SV.den, SV0.den, goInt]
    · rename_i l hty hx
      obtain ⟨ty, i, g1, g2, g3⟩ := ty0 _ hty
      have hd := g3.desc; rw [g2] at hd
      obtain ⟨ex, _⟩ := evs_den ht hg hx
      cases h
      refine .of rfl fun w => ?_
      rw [hex w, e1]
      have hs : (⟨(l.map UInt8.ofBitVec).toArray⟩ : ByteArray).size = l.length := by simp [ByteArray.size]
      simp [Go.builtin, Builtin.len_, g1, ex, run_underlying hd, Sc.den, SV.den, SV0.den, goInt, hs]
    · split at h <;> first | (cases h; done) | skip
      rename_i n e es ea hty
      obtain ⟨ty, i, g1, g2, g3⟩ := ty0 _ hty
      have hd := g3.desc; rw [g2] at hd
      cases h
      refine .of rfl fun w => ?_
      rw [hex w, e1]
      simp [Go.builtin, Builtin.len_, g1, run_underlying hd.1, Sc.den, SV.den, SV0.den, goInt]
  · rename_i x hargs
    have e1 := one x hargs
    split at h <;> first | (cases h; done) | skip
    · rename_i e es ea eb k off len cap hty hx
      obtain ⟨ty, i, g1, g2, g3⟩ := ty0 _ hty
      have hd := g3.desc; rw [g2] at hd
      obtain ⟨ex, _⟩ := evs_den ht hg hx
      cases h
      refine .of rfl fun w => ?_
      rw [hex w, e1]
      simp [Go.builtin, Builtin.cap_, g1, ex, run_underlying hd.1, Sc.den, SV.den, SV0.den, goInt]
    · rename_i e es ea eb hty hx
      obtain ⟨ty, i, g1, g2, g3⟩ := ty0 _ hty
      have hd := g3.desc; rw [g2] at hd
      obtain ⟨ex, _⟩ := evs_den ht hg hx
      cases h
      refine .of rfl fun w => ?_
      rw [hex w, e1]
      simp [Go.builtin, Builtin.cap_, g1, ex, run_underlying hd.1, Sc.den, SV.den, SV0.den, goInt]
  · rename_i x y hargs
    have e1 := two x y hargs
    split at h <;> first | (cases h; done) | skip
    rename_i p q hx hy
    obtain ⟨ex, _⟩ := evs_den ht hg hx
    obtain ⟨ey, _⟩ := evs_den ht hg hy
    cases h
    refine .of rfl fun w => ?_
    rw [hex w, e1]
    simp [Go.builtin, Builtin.min_, Builtin.min2, ex, ey, Sc.den, SV.den, SV0.den, minX]
  · rename_i x y hargs
    have e1 := two x y hargs
    split at h <;> first | (cases h; done) | skip
    rename_i p q hx hy
    obtain ⟨ex, _⟩ := evs_den ht hg hx
    obtain ⟨ey, _⟩ := evs_den ht hg hy
    cases h
    refine .of rfl fun w => ?_
    rw [hex w, e1]
    simp [Go.builtin, Builtin.max_, Builtin.max2, ex, ey, Sc.den, SV.den, SV0.den, maxX]

/-- **ALL COMPUTING OPERATIONS.** -/
theorem pure_comp (hT : TysOk P cx.T) (ht : TmOk ρ t nx a) (hg : GlOk cx ρ nx) (hst : StatOk ρ m) (hkeys : ∀ k s, find m k = some s → k < nx) {o : Oper} {r : SV} {ob : List Prop}
    (h : pureX cx t m o.op = some (r, ob)) (hob : ∀ q ∈ ob, q) : Comp P ρ nx a o r := by
  cases ho : o.op <;> rw [ho] at h
  case move x =>
    simp only [pureX] at h
    split at h <;> first | (cases h; done) | skip
    rename_i v hx
    cases h
    obtain ⟨ex, lx⟩ := ev_den ht hg hx
    exact .of lx fun w => by simp [execOp, ho, ex]
  case assign x =>
    simp only [pureX] at h
    split at h <;> first | (cases h; done) | skip
    rename_i v hx
    cases h
    obtain ⟨ex, lx⟩ := ev_den ht hg hx
    exact .of lx fun w => by simp [execOp, ho, ex]
  case pick c x y => exact pick_comp ht hg ho h hob
  case nilCheck x => exact nilCheck_comp hT ht hg ho h hob
  case binOp op ty x y yt =>
    simp only [pureX] at h
    split at h <;> first | (cases h; done) | skip
    rename_i u v hx hy
    split at h
    · rename_i r' hr
      cases h
      exact nilX_comp hT ho (ev_den ht hg hx).1 (ev_den ht hg hy).1 hr
    · exact binX_comp hT ho (ev_den ht hg hx).1 (ev_den ht hg hy).1 h hob
  case unOp op ty x =>
    simp only [pureX] at h
    split at h <;> first | (cases h; done) | skip
    rename_i u hx
    split at h <;> first | (cases h; done) | skip
    rename_i r' ob' hr
    cases h
    exact unX_comp ho (evs_den ht hg hx).1 hr hob
  case convert s d x =>
    simp only [pureX] at h
    split at h <;> first | (cases h; done) | skip
    all_goals
      rename_i td u hs hd hx
      obtain ⟨ex, _⟩ := evs_den ht hg hx
      cases hc : cvX td u with
      | none => rw [hc] at h; cases h
      | some r' =>
        rw [hc] at h
        cases h
        obtain ⟨i, hi, hok⟩ := tyOf_ok hT hd
        have hdd := hok.desc
        rw [hi] at hdd
        obtain ⟨i2, hi2, hok2⟩ := tyOf_ok hT hs
        have hdd2 := hok2.desc
        rw [hi2] at hdd2
        have key := fun w => cvX_run (P := P) (ρ := ρ) ⟨_, hdd2⟩ (d := d) (ti := td) (by cases td <;> first | exact hdd | trivial) hc w
        refine .of ((key default).2 nx) fun w => ?_
        simp [execOp, ho, ex, (key w).1]
        rfl
  case slice ty x lo hi mx => exact slice_comp hT ht hg hst ho h hob
  case fieldAddr ty x f => exact fieldAddr_comp hT ht hg hst hkeys ho h hob
  case field ty x f => exact field_comp hT ht hg ho h
  case indexAddr ty x i => exact indexAddr_comp hT ht hg hst ho h hob
  case index ty x i => exact index_comp hT ht hg ho h hob
  case extract x i => exact extract_comp ht hg ho h
  case build ty ps => exact build_comp hT ht hg ho h
  case sliceToArrayPointer ty x => exact sl2ap_comp hT ht hg hst ho h hob
  case makeInterface ty x => exact makeIface_comp hT ht hg ho h
  case call c =>
    simp only [pureX] at h
    split at h <;> first | (cases h; done) | skip
    rename_i b hb
    exact builtin_comp hT ht hg ho hb h
  case makeFunc fn fs cs =>
    cases fn <;> simp only [pureX] at h <;> first | (cases h; done) | skip
    split at h <;> first | (cases h; done) | skip
    rename_i x h1 h2
    split at h <;> first | (cases h; done) | skip
    rename_i y hy
    cases h
    obtain ⟨ex, lx⟩ := evs_den ht hg hy
    have e1 : fs = #[x] := by cases fs; simp_all
    have e2 : cs = #[] := by cases cs; simp_all
    refine .of lx fun w => ?_
    subst e1 e2
    simp [execOp, ho, ex, Sc.den, SV.den, SV0.den, Instr.makeFunc]
  all_goals (simp only [pureX] at h; cases h)

end
end Go.Sx
