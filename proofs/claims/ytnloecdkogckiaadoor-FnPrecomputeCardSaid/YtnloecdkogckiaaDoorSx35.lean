/- Calls that the model answers itself: sums and differences with carries, a truth value as a byte. Conditions: none; plain definitions and theorems over any program. -/
import Derived.Test.YtnloecdkogckiaaDoorSx34
import Derived.Laws.Externs
set_option linter.unusedVariables false
namespace Go.Sx
open Go.RowKit

/-- the carry of a sum; the borrow of a difference -/
def acy (x y c : BitVec 64) : BitVec 64 := BitVec.ofNat 64 ((x.toNat + y.toNat + c.toNat) / 2 ^ 64)
def sbw (x y b : BitVec 64) : BitVec 64 := BitVec.ofNat 64 (if x.toNat < y.toNat + b.toNat then 1 else 0)

theorem acy_nat (x y c : BitVec 64) : (acy x y c).toNat = (x.toNat + y.toNat + c.toNat) / 2 ^ 64 := by
  have hx := x.isLt
  have hy := y.isLt
  have hc := c.isLt
  unfold acy
  rw [BitVec.toNat_ofNat, Nat.mod_eq_of_lt (by omega)]
theorem acy_le {x y c : BitVec 64} (h : c.toNat ≤ 1) : (acy x y c).toNat ≤ 1 := by
  have hx := x.isLt
  have hy := y.isLt
  rw [acy_nat]; omega
theorem asm_nat (x y c : BitVec 64) : (x + y + c).toNat = (x.toNat + y.toNat + c.toNat) % 2 ^ 64 := by
  rw [BitVec.toNat_add, BitVec.toNat_add, Nat.mod_add_mod]
theorem sbw_nat (x y b : BitVec 64) : (sbw x y b).toNat = if x.toNat < y.toNat + b.toNat then 1 else 0 := by
  unfold sbw
  rw [BitVec.toNat_ofNat]
  split <;> rfl
theorem sbw_le {x y b : BitVec 64} : (sbw x y b).toNat ≤ 1 := by rw [sbw_nat]; split <;> omega
theorem sdf_nat (x y b : BitVec 64) (hb : b.toNat ≤ 1) : (x - y - b).toNat = (x.toNat + 2 ^ 64 - y.toNat - b.toNat) % 2 ^ 64 := by
  have hx := x.isLt
  have hy := y.isLt
  rw [BitVec.toNat_sub, BitVec.toNat_sub]
  omega

section
variable {P : Program} {B ng : Nat}

def exAdd (args : List SV) (m : Mem) (nx : Nat) : Option Ef := match args with
  | [.one (.s (.u64 x)), .one (.s (.u64 y)), .one (.s (.u64 c))] => some ⟨.tup [.s (.u64 (x + y + c)), .s (.u64 (acy x y c))], m, nx, .read, [c.toNat ≤ 1]⟩
  | _ => none
def exSub (args : List SV) (m : Mem) (nx : Nat) : Option Ef := match args with
  | [.one (.s (.u64 x)), .one (.s (.u64 y)), .one (.s (.u64 b))] => some ⟨.tup [.s (.u64 (x - y - b)), .s (.u64 (sbw x y b))], m, nx, .read, [b.toNat ≤ 1]⟩
  | _ => none
/-- a truth value as a byte -/
def b2u (x : Bool) : BitVec 8 := bif x then 1#8 else 0#8
def exB2u (args : List SV) (m : Mem) (nx : Nat) : Option Ef := match args with
  | [.one (.s (.b x))] => some ⟨.one (.s (.u8 (b2u x))), m, nx, .read, []⟩
  | _ => none

def subEntry : Array Value → Sem Value := fun args => do
  let (x, y, b) ← Extern.MathBitsCarry.three "Sub64" args
  pure (Extern.MathBitsCarry.pair ((x + Extern.MathBitsCarry.m64 - y - b) % Extern.MathBitsCarry.m64) (if x < y + b then 1 else 0))
theorem run_subE (x y b : Nat) (hb : b ≤ 1) (w : World) : (subEntry #[.int .u64 x, .int .u64 y, .int .u64 b]).run P w =
      .ok (.tuple #[.int .u64 (((x + 18446744073709551616 - y - b) % 18446744073709551616 : Nat) : Int), .int .u64 ((if x < y + b then 1 else 0 : Nat) : Int)]) w := by
  have : b = 0 ∨ b = 1 := by omega
  rcases this with rfl | rfl <;> rfl
def b2uEntry : Array Value → Sem Value := fun
    | #[.bool b] => pure (.int .u8 (if b then 1 else 0))
    | _ => stuck "boolToUint8: a bool expected"

structure ExOk (P : Program) (f : FuncId) (fn : Func) (e : Array Value → Sem Value) : Prop where
  func : P.funcs[f]? = some fn
  name : (fn.name == "runtime.NumGoroutine") = false
  body : fn.body.isNone = true
  next : Extern.findNext fn = none
  find : Extern.find fn = some e

theorem HkOk.exAdd {f : FuncId} {fn : Func} (h : ExOk P f fn add64Entry) : HkOk P B ng f Sx.exAdd := by
  intro args m nx e he hob hargs
  unfold Sx.exAdd at he
  split at he <;> first | (cases he; done) | skip
  rename_i x y c
  cases he
  have hc : c.toNat ≤ 1 := hob _ (by simp)
  refine ⟨⟨by simp [SV.lt, SV0.lt, Sc.lt], .inr ⟨rfl, rfl, fun ρ w => ?_⟩⟩, rfl, rfl⟩
  show (callFunc f #[.int .u64 x.toNat, .int .u64 y.toNat, .int .u64 c.toNat]).run P w = _
  rw [run_callFunc_extern h.func h.name h.body h.next h.find, run_add64 _ _ _ (by omega) (by omega) (by omega) (by omega)]
  simp only [Result.andThen, SV.den, List.map, SV0.den, Sc.den, asm_nat, acy_nat]
  congr 5 <;> omega

theorem HkOk.exSub {f : FuncId} {fn : Func} (h : ExOk P f fn subEntry) : HkOk P B ng f Sx.exSub := by
  intro args m nx e he hob hargs
  unfold Sx.exSub at he
  split at he <;> first | (cases he; done) | skip
  rename_i x y c
  cases he
  have hc : c.toNat ≤ 1 := hob _ (by simp)
  refine ⟨⟨by simp [SV.lt, SV0.lt, Sc.lt], .inr ⟨rfl, rfl, fun ρ w => ?_⟩⟩, rfl, rfl⟩
  show (callFunc f #[.int .u64 x.toNat, .int .u64 y.toNat, .int .u64 c.toNat]).run P w = _
  rw [run_callFunc_extern h.func h.name h.body h.next h.find, run_subE _ _ _ hc]
  simp only [Result.andThen, SV.den, List.map, SV0.den, Sc.den, sdf_nat x y c hc, sbw_nat]

theorem HkOk.exB2u {f : FuncId} {fn : Func} (h : ExOk P f fn b2uEntry) : HkOk P B ng f Sx.exB2u := by
  intro args m nx e he hob hargs
  unfold Sx.exB2u at he
  split at he <;> first | (cases he; done) | skip
  rename_i x
  cases he
  refine ⟨⟨by simp [SV.lt, SV0.lt, Sc.lt], .inr ⟨rfl, rfl, fun ρ w => ?_⟩⟩, rfl, rfl⟩
  show (callFunc f #[.bool x]).run P w = _
  rw [run_callFunc_extern h.func h.name h.body h.next h.find]
  cases x <;> rfl
end
end Go.Sx
