/- Symbolic copies, views of slices, texts of bytes; and their soundness. Conditions: none; plain definitions and theorems over any program. -/
import Derived.Test.YtnloecdkogckiaaDoorSx8
set_option linter.unusedVariables false
namespace Go.Sx
open Go.RowKit

/-- the row, the place and the length of what a slice, or a text, shows -/
def srcX (m : Mem) : Sc → Option (SegD × Nat × Nat)
  | .sl k o len _ => match find m k with
    | some s => some (s.d, o, len)
    | none => none
  | .osl k len => match find m k with
    | some s => some (s.d, 0, len)
    | none => none
  | .sl0 => some (.d8 [], 0, 0)
  | .str l => some (.d8 l, 0, l.length)
  | _ => none

def dstX (m : Mem) : Sc → Option (Nat × Seg × Nat × Nat)
  | .sl k o len _ => match find m k with
    | some s => some (k, s, o, len)
    | none => none
  | .osl k len => match find m k with
    | some s => some (k, s, 0, len)
    | none => none
  | _ => none

def SegD.kindB : SegD → SegD → Bool
  | .d8 _, .d8 _ => true
  | .d32 _, .d32 _ => true
  | .d64 _, .d64 _ => true
  | .di _, .di _ => true
  | .dc _, .dc _ => true
  | _, _ => false

def copyM (cx : Cx) (t : TM) (m : Mem) (ty : Option Ty) (x y : Operand) : Option (SV × Mem × List Prop) :=
  match ty, evs cx t x, evs cx t y with
  | some (.slc _ es _ _), some dv, some sv => match dstX m dv, srcX m sv with
    | some (k, s, o, len), some (e, o', len') => bif s.own && Nat.beq es 1 && e.flatB then (match s.d.spl o (e.sub o' (Nat.min len' len)), need cx (o' + len' ≤ e.len ∧ o + len ≤ bif s.grow then s.d.len else s.n) () with
      | some d, some (_, ob) => some (.one (.s (.i (Nat.min len' len : Nat))), setM m k d, ob)
      | _, _ => none) else none
    | _, _ => none
  | _, _, _ => none

section
variable {P : Program} {cx : Cx} {B ng : Nat} {ρ : Env} {t : TM} {m : Mem} {nx : Nat} {a : Act}

theorem srcX_run {w : World} (hw : MemOk B ng ρ m nx w) {x : Sc} {e : SegD} {o len : Nat} (h : srcX m x = some (e, o, len)) (hl : o + len ≤ e.len) :
    (Builtin.lenOf (x.den ρ)).run P w = .ok len w ∧ (∀ n, n ≤ len → (Builtin.firstCells 1 n (x.den ρ)).run P w = .ok (((e.cells ρ).drop o).take n).toArray w) ∧ (e.lt nx = true) := by
  cases x <;> simp only [srcX, reduceCtorEq] at h
  case sl k o' len' cap =>
    split at h <;> first | (cases h; done) | skip
    rename_i s hs
    cases h
    refine ⟨by simp [Sc.den, Builtin.lenOf], fun n hn => ?_, (hw.wf k s hs).1⟩
    have := run_loadCells_seg (P := P) (hw.segs k s hs) (o := o) (n := n) (by omega)
    simp [Sc.den, Builtin.firstCells, this]
  case osl k len' =>
    split at h <;> first | (cases h; done) | skip
    rename_i s hs
    cases h
    refine ⟨by simp [Sc.den, Builtin.lenOf], fun n hn => ?_, (hw.wf k s hs).1⟩
    have hsk := hw.segs k s hs
    cases hnil : (ρ k).isNil with
    | true =>
      have := hsk.nil hnil
      have := hsk.cap
      have hn0 : n = 0 := by omega
      subst hn0
      simp [Sc.den, hnil, Builtin.firstCells]
    | false =>
      have := run_loadCells_seg (P := P) hsk (o := 0) (n := n) (by omega)
      simp only [Nat.add_zero, List.drop_zero] at this
      simp [Sc.den, hnil, Builtin.firstCells, this]
  case sl0 =>
    cases h
    refine ⟨by simp [Sc.den, Builtin.lenOf], fun n hn => ?_, rfl⟩
    have hn0 : n = 0 := by omega
    subst hn0
    simp [Sc.den, Builtin.firstCells]
  case str l =>
    cases h
    refine ⟨by simp [Sc.den, Builtin.lenOf, ByteArray.size], fun n hn => ?_, rfl⟩
    simp only [Sc.den, Builtin.firstCells, Sem.run_pure, List.drop_zero]
    congr 1
    apply Array.ext'
    simp [SegD.cells, SegD.scs, Function.comp_def, Sc.den, List.map_take]

theorem dstX_run {w : World} (hw : MemOk B ng ρ m nx w) {x : Sc} {k : Nat} {s : Seg} {o len : Nat} (h : dstX m x = some (k, s, o, len)) (hl : o + len ≤ s.d.len) :
    find m k = some s ∧ ∃ base cap, x.den ρ = .slice base len cap ∧ ((base = none ∧ len = 0) ∨ base = some ⟨(ρ k).blk, (ρ k).off + o, none⟩) := by
  cases x <;> simp only [dstX, reduceCtorEq] at h
  case sl k' o' len' cap =>
    split at h <;> first | (cases h; done) | skip
    rename_i s' hs
    cases h
    exact ⟨hs, _, _, rfl, .inr rfl⟩
  case osl k' len' =>
    split at h <;> first | (cases h; done) | skip
    rename_i s' hs
    cases h
    refine ⟨hs, _, _, rfl, ?_⟩
    have hsk := hw.segs k s hs
    cases hnil : (ρ k).isNil with
    | true => exact .inl ⟨by simp, by have := hsk.nil hnil; have := hsk.cap; omega⟩
    | false => exact .inr (by simp)

theorem SegD.sub_len (d : SegD) (o n : Nat) (h : o + n ≤ d.len) : (d.sub o n).len = n := by
  rw [← scs_length, SegD.sub_scs, List.length_take, List.length_drop, scs_length]; omega

theorem SegD.flat_one {e : SegD} (h : e.flatB = true) (ρ : Env) : ∀ v ∈ e.cells ρ, v.oneCell' = true := SegD.one (by cases e <;> first | rfl | exact h) ρ

theorem copy_writes (hT : TysOk P cx.T) (ht : TmOk ρ t nx a) (hg : GlOk cx ρ nx) {c : Call} {x y : Operand} {v : SV} {m' : Mem} {ob : List Prop} {o : Oper} (ho : o.op = .call c) (hc : c.callee = .builtin .copy) (hargs : c.args.toList = [x, y])
    (h : copyM cx t m (match c.argTypes[0]? with
      | some ty => tyOf cx ty
      | none => none) x y = some (v, m', ob)) (hob : ∀ q ∈ ob, q) : Writes P B ng ρ m nx a o v m' nx := by
  have hca : c.args = #[x, y] := by cases hh : c.args; simp_all
  unfold copyM at h
  split at h <;> first | (cases h; done) | skip
  rename_i e0 es ea eb dv sv hty hx hy
  split at hty <;> first | (cases hty; done) | skip
  rename_i ty hty0
  obtain ⟨i, hi, hok⟩ := tyOf_ok hT hty
  have hd := hok.desc
  rw [hi] at hd
  obtain ⟨hu, ⟨inf, hinf, hsz, _⟩, _⟩ := hd
  obtain ⟨ex, _⟩ := evs_den ht hg hx
  obtain ⟨ey, _⟩ := evs_den ht hg hy
  split at h <;> first | (cases h; done) | skip
  rename_i k s off len e o' len' hdst hsrc
  cases hb : (s.own && Nat.beq es 1 && e.flatB) with
  | false => rw [hb] at h; cases h
  | true =>
    rw [hb, cond_true] at h
    simp only [Bool.and_eq_true] at hb
    obtain ⟨⟨b1, b2⟩, b3⟩ := hb
    have hes : es = 1 := Nat.eq_of_beq_eq_true b2
    split at h <;> first | (cases h; done) | skip
    rename_i d _ ob' hd hn
    cases h
    obtain ⟨_, hn1, hn2⟩ := need_spec hn hob
    refine ⟨rfl, fun w hw => ?_⟩
    have hmin1 : Nat.min len' len ≤ len' := Nat.min_le_left _ _
    have hmin2 : Nat.min len' len ≤ len := Nat.min_le_right _ _
    have hm0 : len = 0 → Nat.min len' len = 0 := fun e => by rw [e] at hmin2; rw [e]; omega
    generalize hN : Nat.min len' len = N at *
    have hle : off + len ≤ s.d.len := by
      cases hgr : s.grow with
      | true => rw [hgr] at hn2; exact hn2
      | false =>
        rw [hgr] at hn2
        have hfind : find m k = some s := by
          cases dv <;> simp only [dstX, reduceCtorEq] at hdst
          all_goals
            split at hdst <;> first | (cases hdst; done) | skip
            rename_i s' hs'
            cases hdst
            exact hs'
        rw [(hw.segs k s hfind).fixed hgr]; exact hn2
    obtain ⟨s1, s2, s3⟩ := srcX_run (P := P) hw hsrc hn1
    obtain ⟨hs, base, cap, hbase, hor⟩ := dstX_run hw hdst hle
    obtain ⟨p1, p2, p3⟩ := SegD.spl_spec hd
    have hsl := SegD.sub_len e o' N (by omega)
    have hcells : ((e.cells ρ).drop o').take N = (e.sub o' N).cells ρ := by
      simp [SegD.cells, SegD.sub_scs, List.map_take, List.map_drop]
    have hvl : (((e.cells ρ).drop o').take N).length = N := by rw [hcells, cells_length, hsl]
    obtain ⟨w', r, p⟩ := store_seg (P := P) hw hs b1 (o := off) (vs := ((e.cells ρ).drop o').take N) (d := d) (by omega) (fun _ => SegD.spl_zv hd) (p2 (by omega)) (p3 nx (hw.wf k s hs).1 (SegD.sub_lt s3 _ _))
      (fun u hu => SegD.flat_one b3 ρ u (List.mem_of_mem_drop (List.mem_of_mem_take hu))) (by rw [hcells, SegD.cells, p1, splice_map]; rfl)
    have hsz1 := run_sizeOf_of (P := P) hinf w
    rw [hsz, hes] at hsz1
    have ex' : a.eval x = .slice base len cap := ex.trans hbase
    rcases hor with ⟨rfl, hl0⟩ | rfl
    · have hm0 := hm0 hl0
      have hww : w' = w := by
        rw [hm0] at r
        simp only [List.take_zero, storeCells, Sem.run_pure, Result.ok.injEq, true_and] at r
        exact r.symm
      rw [hww] at p
      refine ⟨ρ, w, .inl ?_, p⟩
      simp only [execOp, ho, resolve, hc, hca, Sem.run_bind, Sem.run_pure, Result.andThen_ok, invoke, Go.builtin, Builtin.copy_, hty0]
      have hz := s2 _ hmin1
      rw [hm0] at hz hN
      simp [ex', ey, run_underlying hu, s1, hsz1, hN, hz, SV.den, SV0.den, Sc.den, goInt, hm0]
    · refine ⟨ρ, w', .inl ?_, p⟩
      simp only [execOp, ho, resolve, hc, hca, Sem.run_bind, Sem.run_pure, Result.andThen_ok, invoke, Go.builtin, Builtin.copy_, hty0]
      simp [ex', ey, run_underlying hu, s1, hsz1, hN, s2 _ hmin1, r, SV.den, SV0.den, Sc.den, goInt]

end
end Go.Sx
