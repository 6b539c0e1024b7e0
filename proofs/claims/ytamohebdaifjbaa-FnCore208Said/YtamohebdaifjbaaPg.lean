/- The program, its types, and how its functions are walked into. Conditions: none. -/
import Derived.Test.YtamohebdaifjbaaSx32
import Derived.Test.YtamohebdaifjbaaProg
import Derived.KernelRfl
set_option maxRecDepth 1000000
set_option linter.unusedVariables false
namespace Go.Sx
open Go.Proofs

noncomputable def P0 : Program := Try.prog
theorem mix : P0.follows .mixedOrders = true := by kernel_rfl
noncomputable def T0 : Tys := [(5, ⟨.int .u8, 1, [.d8 [0]], false⟩),
  (3, ⟨.int .i64, 1, [.di [0]], false⟩),
  (50, ⟨.int .u32, 1, [.d32 [0]], false⟩),
  (25, ⟨.slc 5 1 false 1, 1, [.dc [.sl0]], false⟩),
  (53, ⟨.arr 16 50 1 false, 16, [.d32 (List.replicate 16 0)], true⟩),
  (4, ⟨.bool, 1, [.dc [.b false]], false⟩),
  (51, ⟨.int .u64, 1, [.d64 [0]], false⟩),
  (9, ⟨.str, 1, [.dc [.str []]], false⟩),
  (2, ⟨.int .i64, 1, [.di [0]], false⟩),
  (12, ⟨.int .u64, 1, [.d64 [0]], false⟩),
  (20, ⟨.ifc, 1, [.dc [.f0]], false⟩),
  (22, ⟨.arr 64 5 1 false, 64, [.d8 (List.replicate 64 0)], true⟩),
  (26, ⟨.arr 16 5 1 false, 16, [.d8 (List.replicate 16 0)], true⟩),
  (27, ⟨.arr 32 5 1 false, 32, [.d8 (List.replicate 32 0)], true⟩),
  (36, ⟨.arr 24 5 1 false, 24, [.d8 (List.replicate 24 0)], true⟩),
  (39, ⟨.ptr 22, 1, [.dc [.p0]], false⟩),
  (41, ⟨.slc 25 1 false 24, 1, [.dc [.sl0]], false⟩),
  (44, ⟨.ptr 26, 1, [.dc [.p0]], false⟩),
  (45, ⟨.ptr 27, 1, [.dc [.p0]], false⟩),
  (58, ⟨.arr 8 3 1 false, 8, [.di (List.replicate 8 0)], false⟩),
  (60, ⟨.ptr 53, 1, [.dc [.p0]], false⟩),
  (72, ⟨.ptr 5, 1, [.dc [.p0]], false⟩)]
theorem T0ok : TysOk P0 T0 :=
  .cons (.int (b := 1) (by kernel_rfl) (by kernel_rfl) rfl) <|
  .cons (.int (b := 8) (by kernel_rfl) (by kernel_rfl) rfl) <|
  .cons (.int (b := 4) (by kernel_rfl) (by kernel_rfl) rfl) <|
  .cons (.slc (b := 24) (zo := some #[.int .u8 0]) (by kernel_rfl) (by kernel_rfl) rfl (by kernel_rfl) (by kernel_rfl)) <|
  .cons (.arrEq (b := 64) (k := .u32) (by kernel_rfl) (by kernel_rfl) rfl (by kernel_rfl) (by kernel_rfl) (by kernel_rfl)) <|
  .cons (.bool (b := 1) (by kernel_rfl) (by kernel_rfl) rfl) <|
  .cons (.int (b := 8) (by kernel_rfl) (by kernel_rfl) rfl) <|
  .cons (.str (b := 16) (by kernel_rfl) (by kernel_rfl) rfl) <|
  .cons (.int (b := 8) (by kernel_rfl) (by kernel_rfl) rfl) <|
  .cons (.int (b := 8) (by kernel_rfl) (by kernel_rfl) rfl) <|
  .cons (.ifc' (b := 16) (by kernel_rfl) (by kernel_rfl) rfl) <|
  .cons (.arrEq (b := 64) (k := .u8) (by kernel_rfl) (by kernel_rfl) rfl (by kernel_rfl) (by kernel_rfl) (by kernel_rfl)) <|
  .cons (.arrEq (b := 16) (k := .u8) (by kernel_rfl) (by kernel_rfl) rfl (by kernel_rfl) (by kernel_rfl) (by kernel_rfl)) <|
  .cons (.arrEq (b := 32) (k := .u8) (by kernel_rfl) (by kernel_rfl) rfl (by kernel_rfl) (by kernel_rfl) (by kernel_rfl)) <|
  .cons (.arrEq (b := 24) (k := .u8) (by kernel_rfl) (by kernel_rfl) rfl (by kernel_rfl) (by kernel_rfl) (by kernel_rfl)) <|
  .cons (.ptr (b := 8) (by kernel_rfl) (by kernel_rfl) rfl) <|
  .cons (.slc (b := 24) (zo := some (zCells [.dc [.sl0]])) (by kernel_rfl) (by kernel_rfl) rfl (by kernel_rfl) (by kernel_rfl)) <|
  .cons (.ptr (b := 8) (by kernel_rfl) (by kernel_rfl) rfl) <|
  .cons (.ptr (b := 8) (by kernel_rfl) (by kernel_rfl) rfl) <|
  .cons (.arr (b := 64) (by kernel_rfl) (by kernel_rfl) rfl (by kernel_rfl) (by kernel_rfl)) <|
  .cons (.ptr (b := 8) (by kernel_rfl) (by kernel_rfl) rfl) <|
  .cons (.ptr (b := 8) (by kernel_rfl) (by kernel_rfl) rfl) <|
  TysOk.nil

noncomputable def bodyOf (f : Func) : Code := f.body.getD .skip
/-- conditions decided (true), or handed back (false) -/
noncomputable def cxb (c : Bool) : Cx := ⟨T0, 0, c⟩

noncomputable def H0 (c : Bool) : Hook := fun _ _ _ _ => none
theorem H0ok (B : Nat) (c : Bool) : HookOk P0 B 0 (H0 c) := HookOk.none P0 B 0
theorem bodyEq {f : Func} {c : Code} (h : f.body = some c) : f.body = some (bodyOf f) := by unfold bodyOf; rw [h]; rfl
end Go.Sx
