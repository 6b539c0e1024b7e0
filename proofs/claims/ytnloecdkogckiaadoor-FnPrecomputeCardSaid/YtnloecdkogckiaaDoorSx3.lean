/- The symbolic run of operations that only compute, and its soundness. Conditions: none; plain definitions and theorems over any program. -/
import Derived.Test.YtnloecdkogckiaaDoorSx2
set_option linter.unusedVariables false
namespace Go.Sx
open Go.RowKit

/-- what a run is told: the types, how many global variables lie at keys of their own, and whether side conditions are decided at once or handed back -/
structure Cx where
  T : Tys
  ng : Nat
  chk : Bool

def need {α : Type} (cx : Cx) (p : Prop) [Decidable p] (x : α) : Option (α × List Prop) :=
  bif cx.chk then (if p then some (x, []) else none) else some (x, [p])

theorem need_spec {α : Type} {cx : Cx} {p : Prop} [Decidable p] {x y : α} {ob : List Prop} (h : need cx p x = some (y, ob)) (hob : ∀ q ∈ ob, q) : y = x ∧ p := by
  unfold need at h
  cases hc : cx.chk with
  | true =>
    rw [hc] at h
    simp only [cond_true] at h
    split at h
    · rename_i hp
      simp only [Option.some.injEq, Prod.mk.injEq] at h
      exact ⟨h.1.symm, hp⟩
    · cases h
  | false =>
    rw [hc] at h
    simp only [cond_false, Option.some.injEq, Prod.mk.injEq] at h
    exact ⟨h.1.symm, hob p (by rw [← h.2]; simp)⟩

def cst : Value → Option Sc
  | .bool b => some (.b b)
  | .int .i64 n => some (.i n)
  | .int .u8 (.ofNat n) => bif Nat.blt n 256 then some (.u8 (BitVec.ofNat 8 n)) else none
  | .int .u32 (.ofNat n) => bif Nat.blt n 4294967296 then some (.u32 (BitVec.ofNat 32 n)) else none
  | .int .u64 (.ofNat n) => bif Nat.blt n 18446744073709551616 then some (.u64 (BitVec.ofNat 64 n)) else none
  | .string s => some (.str (s.data.toList.map UInt8.toBitVec))
  | .pointer none => some .p0
  | .slice none 0 0 => some .sl0
  | .nilIface => some .f0
  | _ => none

theorem cst_den {v : Value} {x : Sc} (h : cst v = some x) (ρ : Env) : x.den ρ = v ∧ ∀ n, x.lt n = true := by
  unfold cst at h
  split at h
  · cases h; exact ⟨rfl, fun _ => rfl⟩
  · cases h; exact ⟨rfl, fun _ => rfl⟩
  · rename_i n
    cases hn : Nat.blt n 256 with
    | false => simp [hn] at h
    | true =>
      simp only [hn, cond_true, Option.some.injEq] at h
      subst h
      have := blt_iff.1 hn
      exact ⟨by simp [Sc.den, Nat.mod_eq_of_lt this], fun _ => rfl⟩
  · rename_i n
    cases hn : Nat.blt n 4294967296 with
    | false => simp [hn] at h
    | true =>
      simp only [hn, cond_true, Option.some.injEq] at h
      subst h
      have := blt_iff.1 hn
      exact ⟨by simp [Sc.den, Nat.mod_eq_of_lt this], fun _ => rfl⟩
  · rename_i n
    cases hn : Nat.blt n 18446744073709551616 with
    | false => simp [hn] at h
    | true =>
      simp only [hn, cond_true, Option.some.injEq] at h
      subst h
      have := blt_iff.1 hn
      exact ⟨by simp [Sc.den, Nat.mod_eq_of_lt this], fun _ => rfl⟩
  · rename_i s
    cases h
    refine ⟨?_, fun _ => rfl⟩
    simp only [Sc.den, List.map_map]
    congr 1
    obtain ⟨⟨l⟩⟩ := s
    congr 2
    have : (UInt8.ofBitVec ∘ UInt8.toBitVec) = id := rfl
    simp [this]
  · cases h; exact ⟨rfl, fun _ => rfl⟩
  · cases h; exact ⟨rfl, fun _ => rfl⟩
  · cases h; exact ⟨rfl, fun _ => rfl⟩
  · cases h

def ev (cx : Cx) (t : TM) : Operand → Option SV
  | .tmp n => find t n
  | .const v => match cst v with
    | some x => some (.one (.s x))
    | none => none
  | .global g => bif Nat.blt g cx.ng then some (.one (.s (.p g 0))) else none
  | .func _ => none

def evs (cx : Cx) (t : TM) (x : Operand) : Option Sc :=
  match ev cx t x with
  | some (.one (.s y)) => some y
  | _ => none

/-- the temporaries hold what the table says -/
structure TmOk (ρ : Env) (t : TM) (nx : Nat) (a : Act) : Prop where
  val : ∀ i v, find t i = some v → a.tmps.getD i undef = v.den ρ
  wf : ∀ i v, find t i = some v → v.lt nx = true

/-- the keys of globals -/
def GlOk (cx : Cx) (ρ : Env) (nx : Nat) : Prop := cx.ng ≤ nx ∧ ∀ g, g < cx.ng → (ρ g).blk = g ∧ (ρ g).off = 0

/-- a key whose place is nil holds no cell -/
def NilOk (ρ : Env) (m : Mem) : Prop := ∀ k s, find m k = some s → (ρ k).isNil = true → s.d.len = 0

section
variable {cx : Cx} {ρ : Env} {t : TM} {m : Mem} {nx : Nat} {a : Act}

theorem ev_den (ht : TmOk ρ t nx a) (hg : GlOk cx ρ nx) {x : Operand} {v : SV} (h : ev cx t x = some v) : a.eval x = v.den ρ ∧ v.lt nx = true := by
  cases x with
  | tmp n => exact ⟨ht.val n v h, ht.wf n v h⟩
  | const c =>
    simp only [ev] at h
    split at h
    · rename_i x hx
      cases h
      have := cst_den hx ρ
      exact ⟨this.1.symm, this.2 nx⟩
    · cases h
  | global g =>
    simp only [ev] at h
    cases hb : Nat.blt g cx.ng with
    | false => simp [hb] at h
    | true =>
      simp only [hb, cond_true, Option.some.injEq] at h
      subst h
      have hlt := blt_iff.1 hb
      obtain ⟨e1, e2⟩ := hg.2 g hlt
      refine ⟨?_, blt_iff.2 (Nat.lt_of_lt_of_le hlt hg.1)⟩
      simp [Act.eval, SV.den, SV0.den, Sc.den, e1, e2]
  | func f => cases h

theorem evs_den (ht : TmOk ρ t nx a) (hg : GlOk cx ρ nx) {x : Operand} {v : Sc} (h : evs cx t x = some v) : a.eval x = v.den ρ ∧ v.lt nx = true := by
  unfold evs at h
  split at h
  · rename_i y hy
    cases h
    exact ev_den ht hg hy
  · cases h

end

/-! ### Two operands -/

def bvAll (cx : Cx) {w : Nat} (mk : BitVec w → Sc) (o : BinOp) (x y : BitVec w) : Option (Sc × List Prop) :=
  match bvOp o x y with
  | some z => some (mk z, [])
  | none => match bvCmp o x y with
    | some z => some (.b z, [])
    | none => match bvSh o x y.toNat with
      | some z => some (mk z, [])
      | none => match bvDiv o x y with
        | some z => need cx (y.toNat ≠ 0) (mk z)
        | none => none

def bvShU {w : Nat} (mk : BitVec w → Sc) (o : BinOp) (x : BitVec w) (n : Nat) : Option (Sc × List Prop) :=
  match bvSh o x n with
  | some z => some (mk z, [])
  | none => none

def bvShI (cx : Cx) {w : Nat} (mk : BitVec w → Sc) (o : BinOp) (x : BitVec w) (y : Int) : Option (Sc × List Prop) :=
  match bvSh o x y.toNat with
  | some z => need cx (0 ≤ y) (mk z)
  | none => none

def iAll (cx : Cx) (o : BinOp) (x y : Int) : Option (Sc × List Prop) :=
  match iCmp o x y with
  | some z => some (.b z, [])
  | none => match iBits o x y with
    | some z => some (.i z, [])
    | none => match o with
      | .add => need cx (rng (x + y)) (.i (x + y))
      | .sub => need cx (rng (x - y)) (.i (x - y))
      | .mul => need cx (rng (x * y)) (.i (x * y))
      | .quo => need cx (0 ≤ x ∧ 0 < y ∧ rng x) (.i (x / y))
      | .rem => need cx (0 ≤ x ∧ 0 < y) (.i (x % y))
      | .shr => need cx (0 ≤ y ∧ y ≤ 63) (.i (x / 2 ^ y.toNat))
      | .shl => need cx (0 ≤ y ∧ y ≤ 63 ∧ rng (x * 2 ^ y.toNat)) (.i (x * 2 ^ y.toNat))
      | _ => none

def iShU (cx : Cx) (o : BinOp) (x : Int) (n : Nat) : Option (Sc × List Prop) :=
  match o with
  | .shr => need cx (n ≤ 63) (.i (x / 2 ^ n))
  | .shl => need cx (n ≤ 63 ∧ rng (x * 2 ^ n)) (.i (x * 2 ^ n))
  | _ => none

def binS (cx : Cx) (o : BinOp) (ty : Option Ty) : Sc → Sc → Option (Sc × List Prop)
  | .u8 x, .u8 y => bvAll cx .u8 o x y
  | .u32 x, .u32 y => bvAll cx .u32 o x y
  | .u64 x, .u64 y => bvAll cx .u64 o x y
  | .i x, .i y => iAll cx o x y
  | .u8 x, .u64 y => bvShU .u8 o x y.toNat
  | .u32 x, .u64 y => bvShU .u32 o x y.toNat
  | .u8 x, .i y => bvShI cx .u8 o x y
  | .u32 x, .i y => bvShI cx .u32 o x y
  | .u64 x, .i y => bvShI cx .u64 o x y
  | .i x, .u64 y => iShU cx o x y.toNat
  | .b x, .b y => match o, ty with
    | .eql, some .bool => some (.b (x == y), [])
    | .neq, some .bool => some (.b (!(x == y)), [])
    | _, _ => none
  | .str x, .str y => match o with
    | .eql => some (.b (decide (x = y)), [])
    | .neq => some (.b (!decide (x = y)), [])
    | _ => none
  | _, _ => none

section
variable {cx : Cx} {ρ : Env} (P : Program) (w : World)

theorem bvAll_run {k : IntKind} (hk : k.signed = false) (mk : BitVec k.bits → Sc) (hmk : ∀ z, (mk z).den ρ = .int k z.toNat ∧ ∀ n, (mk z).lt n = true) {o : BinOp} {x y : BitVec k.bits} {r : Sc} {ob : List Prop} (t : TypeId)
    (h : bvAll cx mk o x y = some (r, ob)) (hob : ∀ q ∈ ob, q) : (binOp o t (.int k x.toNat) (.int k y.toNat)).run P w = .ok (r.den ρ) w ∧ ∀ n, r.lt n = true := by
  unfold bvAll at h
  split at h
  · rename_i z hz
    cases h
    rw [(hmk z).1]
    exact ⟨run_bv P w hk t hz, (hmk z).2⟩
  · split at h
    · rename_i z hz
      cases h
      exact ⟨run_bvCmp P w t hz, fun _ => rfl⟩
    · split at h
      · rename_i z hz
        cases h
        rw [(hmk z).1]
        exact ⟨run_bvSh P w hk t (by omega) (by simpa using hz), (hmk z).2⟩
      · split at h
        · rename_i z hz
          obtain ⟨rfl, hy⟩ := need_spec h hob
          rw [(hmk z).1]
          exact ⟨run_bvDiv P w hk t hy hz, (hmk z).2⟩
        · cases h

theorem bvShU_run {k k' : IntKind} (hk : k.signed = false) (mk : BitVec k.bits → Sc) (hmk : ∀ z, (mk z).den ρ = .int k z.toNat ∧ ∀ n, (mk z).lt n = true) {o : BinOp} {x : BitVec k.bits} {y : Nat} {r : Sc} {ob : List Prop} (t : TypeId)
    (h : bvShU mk o x y = some (r, ob)) : (binOp o t (.int k x.toNat) (.int k' (y : Int))).run P w = .ok (r.den ρ) w ∧ ∀ n, r.lt n = true := by
  unfold bvShU at h
  split at h
  · rename_i z hz
    cases h
    rw [(hmk z).1]
    exact ⟨run_bvSh P w hk t (by omega) (by simpa using hz), (hmk z).2⟩
  · cases h

theorem bvShI_run {k k' : IntKind} (hk : k.signed = false) (mk : BitVec k.bits → Sc) (hmk : ∀ z, (mk z).den ρ = .int k z.toNat ∧ ∀ n, (mk z).lt n = true) {o : BinOp} {x : BitVec k.bits} {y : Int} {r : Sc} {ob : List Prop} (t : TypeId)
    (h : bvShI cx mk o x y = some (r, ob)) (hob : ∀ q ∈ ob, q) : (binOp o t (.int k x.toNat) (.int k' y)).run P w = .ok (r.den ρ) w ∧ ∀ n, r.lt n = true := by
  unfold bvShI at h
  split at h
  · rename_i z hz
    obtain ⟨rfl, hy⟩ := need_spec h hob
    rw [(hmk z).1]
    exact ⟨run_bvSh P w hk t hy hz, (hmk z).2⟩
  · cases h

theorem iAll_run {o : BinOp} {x y : Int} {r : Sc} {ob : List Prop} (t : TypeId) (h : iAll cx o x y = some (r, ob)) (hob : ∀ q ∈ ob, q) :
    (binOp o t (.int .i64 x) (.int .i64 y)).run P w = .ok (r.den ρ) w ∧ ∀ n, r.lt n = true := by
  unfold iAll at h
  split at h
  · rename_i z hz
    cases h
    exact ⟨run_iCmp P w t hz, fun _ => rfl⟩
  · split at h
    · rename_i z hz
      cases h
      exact ⟨run_iBits P w t hz, fun _ => rfl⟩
    · split at h
      · obtain ⟨rfl, hy⟩ := need_spec h hob; exact ⟨run_iAdd P w t hy, fun _ => rfl⟩
      · obtain ⟨rfl, hy⟩ := need_spec h hob; exact ⟨run_iSub P w t hy, fun _ => rfl⟩
      · obtain ⟨rfl, hy⟩ := need_spec h hob; exact ⟨run_iMul P w t hy, fun _ => rfl⟩
      · obtain ⟨rfl, hy⟩ := need_spec h hob; exact ⟨run_iQuo P w t hy.1 hy.2.1 hy.2.2, fun _ => rfl⟩
      · obtain ⟨rfl, hy⟩ := need_spec h hob; exact ⟨run_iRem P w t hy.1 hy.2, fun _ => rfl⟩
      · obtain ⟨rfl, hy⟩ := need_spec h hob; exact ⟨run_iShr P w t hy.1 hy.2, fun _ => rfl⟩
      · obtain ⟨rfl, hy⟩ := need_spec h hob; exact ⟨run_iShl P w t hy.1 hy.2.1 hy.2.2, fun _ => rfl⟩
      · cases h

theorem iShU_run {k' : IntKind} {o : BinOp} {x : Int} {y : Nat} {r : Sc} {ob : List Prop} (t : TypeId) (h : iShU cx o x y = some (r, ob)) (hob : ∀ q ∈ ob, q) :
    (binOp o t (.int .i64 x) (.int k' (y : Int))).run P w = .ok (r.den ρ) w ∧ ∀ n, r.lt n = true := by
  unfold iShU at h
  split at h
  · obtain ⟨rfl, hy⟩ := need_spec h hob; exact ⟨run_iShr P w t (by omega) (by omega), fun _ => rfl⟩
  · obtain ⟨rfl, hy⟩ := need_spec h hob; exact ⟨run_iShl P w t (by omega) (by omega) hy.2, fun _ => rfl⟩
  · cases h

theorem str_inj (x y : List (BitVec 8)) : (x.map UInt8.ofBitVec = y.map UInt8.ofBitVec) ↔ x = y :=
  List.map_inj_right (fun a b h => by injection h)

theorem toList_mk (l : List UInt8) : (⟨l.toArray⟩ : ByteArray).toList = l := by rw [ByteArray.toList_eq]

theorem u8_den (ρ : Env) (z : BitVec 8) : (Sc.u8 z).den ρ = .int .u8 z.toNat ∧ ∀ n, (Sc.u8 z).lt n = true := ⟨rfl, fun _ => rfl⟩
theorem u32_den (ρ : Env) (z : BitVec 32) : (Sc.u32 z).den ρ = .int .u32 z.toNat ∧ ∀ n, (Sc.u32 z).lt n = true := ⟨rfl, fun _ => rfl⟩
theorem u64_den (ρ : Env) (z : BitVec 64) : (Sc.u64 z).den ρ = .int .u64 z.toNat ∧ ∀ n, (Sc.u64 z).lt n = true := ⟨rfl, fun _ => rfl⟩

theorem binS_run {o : BinOp} {ty : Option Ty} {x y : Sc} {r : Sc} {ob : List Prop} (t : TypeId) (hty : ty = some .bool → P.underlying t = some .bool)
    (h : binS cx o ty x y = some (r, ob)) (hob : ∀ q ∈ ob, q) : (binOp o t (x.den ρ) (y.den ρ)).run P w = .ok (r.den ρ) w ∧ ∀ n, r.lt n = true := by
  unfold binS at h
  split at h
  · exact bvAll_run P w (k := .u8) rfl _ (u8_den ρ) t h hob
  · exact bvAll_run P w (k := .u32) rfl _ (u32_den ρ) t h hob
  · exact bvAll_run P w (k := .u64) rfl _ (u64_den ρ) t h hob
  · exact iAll_run P w t h hob
  · exact bvShU_run P w (k := .u8) rfl _ (u8_den ρ) t h
  · exact bvShU_run P w (k := .u32) rfl _ (u32_den ρ) t h
  · exact bvShI_run P w (k := .u8) rfl _ (u8_den ρ) t h hob
  · exact bvShI_run P w (k := .u32) rfl _ (u32_den ρ) t h hob
  · exact bvShI_run P w (k := .u64) rfl _ (u64_den ρ) t h hob
  · exact iShU_run P w t h hob
  · rename_i x y
    split at h
    · cases h
      refine ⟨?_, fun _ => rfl⟩
      simp [binOp, Sc.den, run_equal_bool w t x y (hty rfl)]
    · cases h
      refine ⟨?_, fun _ => rfl⟩
      simp [binOp, Sc.den, run_equal_bool w t x y (hty rfl)]
    · cases h
  · rename_i x y
    split at h
    · cases h
      refine ⟨?_, fun _ => rfl⟩
      simp only [Sc.den, binOp_string_eql, Sem.run_pure, toList_mk]
      congr 2
      rw [Bool.eq_iff_iff]; simp [str_inj]
    · cases h
      refine ⟨?_, fun _ => rfl⟩
      simp only [Sc.den, binOp_string_neq, Sem.run_pure, toList_mk]
      congr 3
      rw [Bool.eq_iff_iff]; simp [str_inj]
    · cases h
  · cases h

end
end Go.Sx
