/- Symbolic operations that only compute: what they are, and that the model's operations do the same. Conditions: none; plain definitions and theorems over any program. -/
import Derived.Test.YtnloecdkogckiaaDoorSx1
set_option linter.unusedVariables false
namespace Go.Sx
open Go.RowKit

/-! ### Types -/
inductive Ty where
  | int (k : IntKind)
  | arr (n : Nat) (e : TypeId) (es : Nat) (ea : Bool)
  | slc (e : TypeId) (es : Nat) (ea : Bool) (eb : Nat)
  | st (fs : List (Nat × Nat × Bool))
  | ptr (e : TypeId)
  | str
  | bool
  | ifc
  | oth

/-- a type's row: its form, its size, its zero value in pieces; is it an array of integers that may be compared -/
structure TyI where
  d : Ty
  sz : Nat
  z : List SegD
  eq : Bool

abbrev Tys := List (Nat × TyI)

def aggB : TypeDesc → Bool
  | .struct _ | .array _ _ => true
  | _ => false

/-- type t of program P is as the table says -/
structure TyOk (P : Program) (t : TypeId) (ti : TyI) : Prop where
  size : ∃ i, P.info? t = some i ∧ i.size = ti.sz ∧ (ti.z ≠ [] → ∃ zv, i.zero = some zv ∧ zv.cells = (ti.z.flatMap (SegD.cells (fun _ => ⟨0, 0, 0, false⟩))).toArray) 
  eqs : ti.eq = true → P.eqGuardType P.depth t = false ∧ ∃ n e k, P.underlying t = some (.array n e) ∧ P.underlying e = some (.int k) ∧ ∃ i, P.info? e = some i ∧ i.size = 1
  zwf : ti.z.all (SegD.lt 0) = true
  desc : match ti.d with
    | .int k => P.underlying t = some (.int k)
    | .arr n e es ea => P.underlying t = some (.array n e) ∧ (∃ i, P.info? e = some i ∧ i.size = es) ∧ (∃ d, P.underlying e = some d ∧ aggB d = ea)
    | .slc e es ea eb => P.underlying t = some (.slice e) ∧ (∃ i, P.info? e = some i ∧ i.size = es ∧ i.bytes = eb) ∧ (∃ d, P.underlying e = some d ∧ aggB d = ea)
    | .st fs => ∃ F : Array Field, P.underlying t = some (.struct F) ∧ F.toList.map (fun f => f.offset) = fs.map (·.1) ∧
        ∀ (i : Nat) (f : Field) (x : Nat × Nat × Bool), F[i]? = some f → fs[i]? = some x → (∃ j, P.info? f.type = some j ∧ j.size = x.2.1) ∧ (∃ d, P.underlying f.type = some d ∧ aggB d = x.2.2)
    | .ptr e => P.underlying t = some (.pointer e)
    | .str => P.underlying t = some .string
    | .bool => P.underlying t = some .bool
    | .ifc => ∃ ms, P.underlying t = some (.interface ms)
    | .oth => True

def TysOk (P : Program) (T : Tys) : Prop := ∀ t ti, find T t = some ti → TyOk P t ti

/-! ### Integers -/

def rng (x : Int) : Prop := -9223372036854775808 ≤ x ∧ x ≤ 9223372036854775807
instance (x : Int) : Decidable (rng x) := by unfold rng; infer_instance

theorem wrap_rng {x : Int} (h : rng x) : IntKind.i64.wrap x = x := by
  unfold rng at h
  simp only [IntKind.wrap, IntKind.bits, IntKind.signed, Bool.true_and]
  split
  · rename_i hh; simp at hh; omega
  · rename_i hh; simp at hh; omega

theorem wrap_u8 (x : Int) : IntKind.u8.wrap x = x % 256 := by simp [IntKind.wrap, IntKind.bits, IntKind.signed]
theorem wrap_u32 (x : Int) : IntKind.u32.wrap x = x % 4294967296 := by simp [IntKind.wrap, IntKind.bits, IntKind.signed]
theorem wrap_u64 (x : Int) : IntKind.u64.wrap x = x % 18446744073709551616 := by simp [IntKind.wrap, IntKind.bits, IntKind.signed]

def bvOp {w : Nat} (o : BinOp) (x y : BitVec w) : Option (BitVec w) :=
  match o with
  | .add => some (x + y)
  | .sub => some (x - y)
  | .mul => some (x * y)
  | .and => some (x &&& y)
  | .or => some (x ||| y)
  | .xor => some (x ^^^ y)
  | .andNot => some (x &&& ~~~y)
  | _ => none

def bvDiv {w : Nat} (o : BinOp) (x y : BitVec w) : Option (BitVec w) :=
  match o with
  | .quo => some (x / y)
  | .rem => some (x % y)
  | _ => none

def bvSh {w : Nat} (o : BinOp) (x : BitVec w) (n : Nat) : Option (BitVec w) :=
  match o with
  | .shl => some (x <<< n)
  | .shr => some (x >>> n)
  | _ => none

def bvCmp {w : Nat} (o : BinOp) (x y : BitVec w) : Option Bool :=
  match o with
  | .eql => some (decide (x.toNat = y.toNat))
  | .neq => some (!decide (x.toNat = y.toNat))
  | .lss => some (decide (x.toNat < y.toNat))
  | .leq => some (decide (x.toNat ≤ y.toNat))
  | .gtr => some (decide (y.toNat < x.toNat))
  | .geq => some (decide (y.toNat ≤ x.toNat))
  | _ => none

def iCmp (o : BinOp) (x y : Int) : Option Bool :=
  match o with
  | .eql => some (decide (x = y))
  | .neq => some (!decide (x = y))
  | .lss => some (decide (x < y))
  | .leq => some (decide (x ≤ y))
  | .gtr => some (decide (y < x))
  | .geq => some (decide (y ≤ x))
  | _ => none

def iBits (o : BinOp) (x y : Int) : Option Int :=
  match o with
  | .and => some (IntKind.i64.wrap ((BitVec.ofInt 64 x &&& BitVec.ofInt 64 y).toNat : Int))
  | .or => some (IntKind.i64.wrap ((BitVec.ofInt 64 x ||| BitVec.ofInt 64 y).toNat : Int))
  | .xor => some (IntKind.i64.wrap ((BitVec.ofInt 64 x ^^^ BitVec.ofInt 64 y).toNat : Int))
  | _ => none

theorem wrap_uns {k : IntKind} (hk : k.signed = false) (n : Int) : k.wrap n = n % (2 ^ k.bits : Int) := by simp [IntKind.wrap, hk]

theorem pow_cast (n : Nat) : ((2 ^ n : Nat) : Int) = (2 : Int) ^ n := by simp

theorem toNat_mod {n : Nat} (x : BitVec n) : ((x.toNat : Nat) : Int) % (2 : Int) ^ n = (x.toNat : Int) := by
  rw [← pow_cast, ← Int.natCast_emod, Nat.mod_eq_of_lt x.isLt]

section
variable (P : Program) (w : World)

theorem run_bv {k : IntKind} (hk : k.signed = false) {o : BinOp} {x y z : BitVec k.bits} (t : TypeId) (h : bvOp o x y = some z) :
    (binOp o t (.int k x.toNat) (.int k y.toNat)).run P w = .ok (.int k z.toNat) w := by
  cases o <;> simp only [bvOp, Option.some.injEq, reduceCtorEq] at h <;> subst h
  case add => simp [binOp, Op.intArith, wrap_uns hk, BitVec.toNat_add]
  case sub =>
    have hx := x.isLt
    have hy := y.isLt
    simp only [binOp, Op.intArith, wrap_uns hk, BitVec.toNat_sub, ne_eq, not_true, if_false, Sem.run_pure]
    congr 2
    have : ((2 ^ k.bits - y.toNat + x.toNat : Nat) : Int) = (x.toNat : Int) - y.toNat + (2 : Int) ^ k.bits := by
      rw [Int.natCast_add, Int.natCast_sub (Nat.le_of_lt hy), pow_cast]; omega
    rw [Int.natCast_emod, this, pow_cast, Int.add_emod_right]
  case mul => simp [binOp, Op.intArith, wrap_uns hk, BitVec.toNat_mul]
  all_goals
    simp only [binOp, Op.intBits, wrap_uns hk, ne_eq, not_true, if_false, BitVec.ofInt_natCast, BitVec.ofNat_toNat, BitVec.setWidth_eq, Sem.run_pure]
    rw [toNat_mod]

theorem run_bvDiv {k : IntKind} (hk : k.signed = false) {o : BinOp} {x y z : BitVec k.bits} (t : TypeId) (hy : y.toNat ≠ 0) (h : bvDiv o x y = some z) :
    (binOp o t (.int k x.toNat) (.int k y.toNat)).run P w = .ok (.int k z.toNat) w := by
  have h0 : (y.toNat : Int) ≠ 0 := by omega
  cases o <;> simp only [bvDiv, Option.some.injEq, reduceCtorEq] at h <;> subst h
  case quo =>
    simp only [binOp, Op.intDiv, ne_eq, not_true, if_false, h0, wrap_uns hk, Sem.run_pure]
    congr 2
    rw [Int.tdiv_eq_ediv_of_nonneg (by omega), ← Int.natCast_ediv, ← BitVec.toNat_udiv, toNat_mod]
  case rem =>
    simp only [binOp, Op.intDiv, ne_eq, not_true, if_false, h0, Sem.run_pure]
    congr 2

theorem run_bvCmp {k : IntKind} {o : BinOp} {x y : BitVec k.bits} {z : Bool} (t : TypeId) (h : bvCmp o x y = some z) :
    (binOp o t (.int k x.toNat) (.int k y.toNat)).run P w = .ok (.bool z) w := by
  cases o <;> simp only [bvCmp, Option.some.injEq, reduceCtorEq] at h <;> subst h <;>
    simp only [binOp, Op.intCmp, ne_eq, not_true, if_false, Sem.run_pure]
  all_goals (congr 2; rw [Bool.eq_iff_iff]; simp)
  all_goals omega

theorem run_bvSh {k : IntKind} (hk : k.signed = false) {o : BinOp} {x z : BitVec k.bits} {yk : IntKind} {y : Int} (t : TypeId) (hy : 0 ≤ y) (h : bvSh o x y.toNat = some z) :
    (binOp o t (.int k x.toNat) (.int yk y)).run P w = .ok (.int k z.toNat) w := by
  have hy' : ¬ y < 0 := by omega
  cases o <;> simp only [bvSh, Option.some.injEq, reduceCtorEq] at h <;> subst h
  case shl =>
    simp only [binOp, Op.shift, hy', if_false, wrap_uns hk, Sem.run_pure]
    congr 2
    rw [BitVec.toNat_shiftLeft, Nat.shiftLeft_eq, Int.natCast_emod, pow_cast, Int.natCast_mul, pow_cast]
    rcases Nat.le_total y.toNat k.bits with hle | hle
    · rw [Nat.min_eq_left hle]
    · rw [Nat.min_eq_right hle]
      obtain ⟨d, hd⟩ := Nat.exists_eq_add_of_le hle
      rw [hd, Int.pow_add, Int.mul_emod_left, ← Int.mul_assoc, Int.mul_right_comm, Int.mul_emod_left]
  case shr =>
    simp only [binOp, Op.shift, hy', if_false, Sem.run_pure]
    congr 2
    rw [BitVec.toNat_ushiftRight, Nat.shiftRight_eq_div_pow, Int.fdiv_eq_ediv_of_nonneg _ (by exact Int.le_of_lt (Int.pow_pos (by decide))), Int.natCast_ediv, pow_cast]
    rcases Nat.le_total y.toNat k.bits with hle | hle
    · rw [Nat.min_eq_left hle]
    · rw [Nat.min_eq_right hle, ← pow_cast, ← pow_cast, ← Int.natCast_ediv, ← Int.natCast_ediv, Nat.div_eq_of_lt x.isLt, Nat.div_eq_of_lt]
      exact Nat.lt_of_lt_of_le x.isLt (Nat.pow_le_pow_right (by decide) hle)

theorem run_iCmp {o : BinOp} {x y : Int} {z : Bool} (t : TypeId) (h : iCmp o x y = some z) : (binOp o t (.int .i64 x) (.int .i64 y)).run P w = .ok (.bool z) w := by
  cases o <;> simp only [iCmp, Option.some.injEq, reduceCtorEq] at h <;> subst h <;>
    simp only [binOp, Op.intCmp, ne_eq, not_true, if_false, Sem.run_pure] <;> congr 2 <;> simp [bne, beq_iff_eq]

theorem run_iBits {o : BinOp} {x y z : Int} (t : TypeId) (h : iBits o x y = some z) : (binOp o t (.int .i64 x) (.int .i64 y)).run P w = .ok (.int .i64 z) w := by
  cases o <;> simp only [iBits, Option.some.injEq, reduceCtorEq] at h <;> subst h <;>
    simp only [binOp, Op.intBits, ne_eq, not_true, if_false, Sem.run_pure] <;> rfl

theorem run_iAdd {x y : Int} (t : TypeId) (h : rng (x + y)) : (binOp .add t (.int .i64 x) (.int .i64 y)).run P w = .ok (.int .i64 (x + y)) w := by
  simp only [binOp, Op.intArith, ne_eq, not_true, if_false, Sem.run_pure, wrap_rng h]
theorem run_iSub {x y : Int} (t : TypeId) (h : rng (x - y)) : (binOp .sub t (.int .i64 x) (.int .i64 y)).run P w = .ok (.int .i64 (x - y)) w := by
  simp only [binOp, Op.intArith, ne_eq, not_true, if_false, Sem.run_pure, wrap_rng h]
theorem run_iMul {x y : Int} (t : TypeId) (h : rng (x * y)) : (binOp .mul t (.int .i64 x) (.int .i64 y)).run P w = .ok (.int .i64 (x * y)) w := by
  simp only [binOp, Op.intArith, ne_eq, not_true, if_false, Sem.run_pure, wrap_rng h]
theorem run_iQuo {x y : Int} (t : TypeId) (hx : 0 ≤ x) (hy : 0 < y) (h : rng x) : (binOp .quo t (.int .i64 x) (.int .i64 y)).run P w = .ok (.int .i64 (x / y)) w := by
  have h0 : y ≠ 0 := by omega
  have h1 : 0 ≤ x / y := Int.ediv_nonneg hx (Int.le_of_lt hy)
  have h2 : x / y ≤ x := Int.ediv_le_self y hx
  have h3 : rng (x / y) := by unfold rng at *; omega
  simp only [binOp, Op.intDiv, ne_eq, not_true, if_false, h0, Sem.run_pure, Int.tdiv_eq_ediv_of_nonneg hx, wrap_rng h3]
theorem run_iRem {x y : Int} (t : TypeId) (hx : 0 ≤ x) (hy : 0 < y) : (binOp .rem t (.int .i64 x) (.int .i64 y)).run P w = .ok (.int .i64 (x % y)) w := by
  have h0 : y ≠ 0 := by omega
  simp only [binOp, Op.intDiv, ne_eq, not_true, if_false, h0, Sem.run_pure, Int.tmod_eq_emod_of_nonneg hx]
theorem run_iShr {x y : Int} {yk : IntKind} (t : TypeId) (hy : 0 ≤ y) (hy' : y ≤ 63) : (binOp .shr t (.int .i64 x) (.int yk y)).run P w = .ok (.int .i64 (x / 2 ^ y.toNat)) w := by
  have h : ¬ y < 0 := by omega
  simp only [binOp, Op.shift, h, if_false, Sem.run_pure]
  congr 2
  rw [Int.fdiv_eq_ediv_of_nonneg _ (by exact Int.le_of_lt (Int.pow_pos (by decide))), Nat.min_eq_left (by show y.toNat ≤ 64; omega)]
theorem run_iShl {x y : Int} {yk : IntKind} (t : TypeId) (hy : 0 ≤ y) (hy' : y ≤ 63) (h : rng (x * 2 ^ y.toNat)) : (binOp .shl t (.int .i64 x) (.int yk y)).run P w = .ok (.int .i64 (x * 2 ^ y.toNat)) w := by
  have h0 : ¬ y < 0 := by omega
  simp only [binOp, Op.shift, h0, if_false, Sem.run_pure]
  congr 2
  rw [Nat.min_eq_left (by show y.toNat ≤ 64; omega), wrap_rng h]

theorem run_part_int {e : TypeId} {k : IntKind} (he : P.underlying e = some (.int k)) {cs : Array Value} {j : Nat} {v : Value} (h : cs[j]? = some v) : (part e cs j).run P w = .ok v w := by
  have h2 : (isAgg e).run P w = .ok false w := by simp [isAgg, run_underlying he]
  simp [part, h2, h]

theorem run_eqInts {e : TypeId} {k kk : IntKind} (he : P.underlying e = some (.int kk)) (d : Nat) {α : Type} (f : α → Int) (xs ys : List α) :
    ∀ (l c : Nat), c + l = xs.length → xs.length = ys.length →
    (forIn (List.range' c l) ((none : Option Bool), ()) fun i (_ : Option Bool × Unit) => (do
      let a ← part e (xs.map fun x => Value.int k (f x)).toArray (i * 1)
      let b ← part e (ys.map fun x => Value.int k (f x)).toArray (i * 1)
      let r ← Op.equalIn (d + 1) e a b
      if (!r) = true then pure (ForInStep.done (some false, ())) else pure (ForInStep.yield (none, ())) : Sem (ForInStep (Option Bool × Unit)))).run P w =
      .ok (if (xs.drop c).map f = (ys.drop c).map f then none else some false, ()) w
  | 0, c, hc, hl => by
    have h1 : xs.drop c = [] := List.drop_eq_nil_of_le (by omega)
    have h2 : ys.drop c = [] := List.drop_eq_nil_of_le (by omega)
    simp [h1, h2]
  | l + 1, c, hc, hl => by
    have hx : c < xs.length := by omega
    have hy : c < ys.length := by omega
    have ex : (xs.map fun x => Value.int k (f x)).toArray[c * 1]? = some (.int k (f xs[c])) := by simp [hx]
    have ey : (ys.map fun x => Value.int k (f x)).toArray[c * 1]? = some (.int k (f ys[c])) := by simp [hy]
    simp only [List.range'_succ, List.forIn_cons, Sem.run_bind, run_part_int P w he ex, run_part_int P w he ey, Result.andThen_ok, run_equalIn_int w d e k kk _ _ he, Sem.run_ite, Sem.run_pure]
    rw [List.drop_eq_getElem_cons hx, List.drop_eq_getElem_cons hy]
    by_cases h : f xs[c] = f ys[c]
    · have ih := run_eqInts (k := k) he d f xs ys l (c + 1) (by omega) hl
      simp only [h, beq_self_eq_true, Bool.not_true, Bool.false_eq_true, if_false, Result.andThen_ok, List.map_cons, List.cons.injEq, true_and]
      exact ih
    · have hb : (f xs[c] == f ys[c]) = false := by simpa using h
      simp only [hb, Bool.not_false, if_true, Result.andThen_ok, Sem.run_pure]
      rw [if_neg (fun hh => h (by injection hh))]

/-- two arrays of integers are equal where their cells are -/
theorem run_eqArr {t e : TypeId} {k kk : IntKind} {n : Nat} {i : TypeInfo} (ht : P.underlying t = some (.array n e)) (he : P.underlying e = some (.int kk)) (hi : P.info? e = some i) (h1 : i.size = 1)
    (d : Nat) {α : Type} [DecidableEq α] (f : α → Int) (hf : ∀ x y, f x = f y → x = y) (xs ys : List α) (hx : xs.length = n) (hy : ys.length = n) :
    (Op.equalIn (d + 2) t (.agg (xs.map fun x => Value.int k (f x)).toArray) (.agg (ys.map fun x => Value.int k (f x)).toArray)).run P w = .ok (decide (xs = ys)) w := by
  have hs : (Go.sizeOf e).run P w = .ok 1 w := by simp [Go.sizeOf, run_typeInfo w hi, h1]
  have hm : xs.map f = ys.map f ↔ xs = ys := List.map_inj_right (fun x y h => hf x y h)
  have h := run_eqInts P w (k := k) he d f xs ys n 0 (by omega) (by omega)
  simp only [List.drop_zero, hm] at h
  obtain ⟨D, hD⟩ : ∃ D, D = d + 1 := ⟨_, rfl⟩
  rw [← hD] at h
  rw [show d + 2 = D + 1 by omega]
  clear hD
  simp only [Op.equalIn, Sem.run_bind, run_underlying ht, Result.andThen_ok, hs, Std.Legacy.Range.forIn_eq_forIn_range', Std.Legacy.Range.size, Nat.sub_zero, Nat.add_sub_cancel, Nat.div_one]
  rw [h]
  by_cases hxy : xs = ys <;> simp [hxy]

end
end Go.Sx
