/- The program, its types, and how its functions are walked into. Conditions: none. -/
import Derived.Test.YtnloecdkogckiaaDoorSx32
import Derived.Test.YtnloecdkogckiaaDoorProg
import Derived.KernelRfl
set_option maxRecDepth 1000000
set_option linter.unusedVariables false
namespace Go.Sx
open Go.Proofs

noncomputable def P0 : Program := Tryd.prog
theorem mix : P0.follows .mixedOrders = true := by kernel_rfl
noncomputable def T0 : Tys := [(5, ⟨.int .u8, 1, [.d8 [0]], false⟩),
  (3, ⟨.int .i64, 1, [.di [0]], false⟩),
  (62, ⟨.int .u32, 1, [.d32 [0]], false⟩),
  (46, ⟨.int .u64, 1, [.d64 [0]], false⟩),
  (35, ⟨.slc 5 1 false 1, 1, [.dc [.sl0]], false⟩),
  (63, ⟨.arr 16 62 1 false, 16, [.d32 (List.replicate 16 0)], true⟩),
  (4, ⟨.bool, 1, [.dc [.b false]], false⟩),
  (73, ⟨.int .u64, 1, [.d64 [0]], false⟩),
  (9, ⟨.str, 1, [.dc [.str []]], false⟩),
  (2, ⟨.int .i64, 1, [.di [0]], false⟩),
  (12, ⟨.int .u64, 1, [.d64 [0]], false⟩),
  (20, ⟨.ifc, 1, [.dc [.f0]], false⟩),
  (22, ⟨.arr 32 5 1 false, 32, [.d8 (List.replicate 32 0)], true⟩),
  (29, ⟨.ptr 22, 1, [.dc [.p0]], false⟩),
  (30, ⟨.ifc, 1, [.dc [.f0]], false⟩),
  (31, ⟨.ifc, 1, [.dc [.f0]], false⟩),
  (34, ⟨.mp "Read" 95, 1, [.dc [.p0]], false⟩),
  (36, ⟨.st [(0, 1, false)], 1, [.dc [.sl0]], false⟩),
  (37, ⟨.st [(0, 1, false)], 1, [.dc [.sl0]], false⟩),
  (40, ⟨.arr 16 5 1 false, 16, [.d8 (List.replicate 16 0)], true⟩),
  (41, ⟨.ifc, 1, [.dc [.f0]], false⟩),
  (42, ⟨.ifc, 1, [.dc [.f0]], false⟩),
  (47, ⟨.arr 16 46 1 false, 16, [.d64 (List.replicate 16 0)], true⟩),
  (48, ⟨.arr 16 46 1 false, 16, [.d64 (List.replicate 16 0)], true⟩),
  (51, ⟨.arr 5 48 16 true, 80, [.d64 (List.replicate 80 0)], false⟩),
  (58, ⟨.ptr 40, 1, [.dc [.p0]], false⟩),
  (60, ⟨.arr 64 5 1 false, 64, [.d8 (List.replicate 64 0)], true⟩),
  (66, ⟨.arr 8 3 1 false, 8, [.di (List.replicate 8 0)], false⟩),
  (68, ⟨.arr 32 46 1 false, 32, [.d64 (List.replicate 32 0)], true⟩),
  (76, ⟨.ptr 63, 1, [.dc [.p0]], false⟩),
  (82, ⟨.st [(0, 1, false), (1, 1, false), (2, 1, false), (3, 1, false), (4, 1, false)], 5, [.d64 (List.replicate 5 0)], false⟩),
  (83, ⟨.st [(0, 1, false), (1, 1, false), (2, 1, false), (3, 1, false), (4, 1, false)], 5, [.d64 (List.replicate 5 0)], false⟩),
  (84, ⟨.ptr 83, 1, [.dc [.p0]], false⟩),
  (93, ⟨.ptr 95, 1, [.dc [.p0]], false⟩),
  (94, ⟨.st [(0, 1, false)], 1, [.dc [.str []]], false⟩),
  (95, ⟨.st [(0, 1, false)], 1, [.dc [.str []]], false⟩),
  (105, ⟨.st [(0, 1, false), (1, 1, false)], 2, [.d64 (List.replicate 2 0)], false⟩),
  (106, ⟨.st [(0, 1, false), (1, 1, false)], 2, [.d64 (List.replicate 2 0)], false⟩),
  (124, ⟨.ptr 5, 1, [.dc [.p0]], false⟩)]
theorem T0ok : TysOk P0 T0 :=
  .cons (.int (b := 1) (by kernel_rfl) (by kernel_rfl) rfl) <|
  .cons (.int (b := 8) (by kernel_rfl) (by kernel_rfl) rfl) <|
  .cons (.int (b := 4) (by kernel_rfl) (by kernel_rfl) rfl) <|
  .cons (.int (b := 8) (by kernel_rfl) (by kernel_rfl) rfl) <|
  .cons (.slc (b := 24) (zo := some #[.int .u8 0]) (by kernel_rfl) (by kernel_rfl) rfl (by kernel_rfl) (by kernel_rfl)) <|
  .cons (.arrEq (b := 64) (k := .u32) (by kernel_rfl) (by kernel_rfl) rfl (by kernel_rfl) (by kernel_rfl) (by kernel_rfl)) <|
  .cons (.bool (b := 1) (by kernel_rfl) (by kernel_rfl) rfl) <|
  .cons (.int (b := 8) (by kernel_rfl) (by kernel_rfl) rfl) <|
  .cons (.str (b := 16) (by kernel_rfl) (by kernel_rfl) rfl) <|
  .cons (.int (b := 8) (by kernel_rfl) (by kernel_rfl) rfl) <|
  .cons (.int (b := 8) (by kernel_rfl) (by kernel_rfl) rfl) <|
  .cons (.ifc' (b := 16) (by kernel_rfl) (by kernel_rfl) rfl) <|
  .cons (.arrEq (b := 32) (k := .u8) (by kernel_rfl) (by kernel_rfl) rfl (by kernel_rfl) (by kernel_rfl) (by kernel_rfl)) <|
  .cons (.ptr (b := 8) (by kernel_rfl) (by kernel_rfl) rfl) <|
  .cons (.ifc' (b := 16) (by kernel_rfl) (by kernel_rfl) rfl) <|
  .cons (.ifc' (b := 16) (by kernel_rfl) (by kernel_rfl) rfl) <|
  .cons (.mp (b := 8) (by kernel_rfl) (by kernel_rfl) rfl) <|
  .cons (.st (b := 24) (by kernel_rfl) (by kernel_rfl) rfl) <|
  .cons (.st (b := 24) (by kernel_rfl) (by kernel_rfl) rfl) <|
  .cons (.arrEq (b := 16) (k := .u8) (by kernel_rfl) (by kernel_rfl) rfl (by kernel_rfl) (by kernel_rfl) (by kernel_rfl)) <|
  .cons (.ifc' (b := 16) (by kernel_rfl) (by kernel_rfl) rfl) <|
  .cons (.ifc' (b := 16) (by kernel_rfl) (by kernel_rfl) rfl) <|
  .cons (.arrEq (b := 128) (k := .u64) (by kernel_rfl) (by kernel_rfl) rfl (by kernel_rfl) (by kernel_rfl) (by kernel_rfl)) <|
  .cons (.arrEq (b := 128) (k := .u64) (by kernel_rfl) (by kernel_rfl) rfl (by kernel_rfl) (by kernel_rfl) (by kernel_rfl)) <|
  .cons (.arr (b := 640) (by kernel_rfl) (by kernel_rfl) rfl (by kernel_rfl) (by kernel_rfl)) <|
  .cons (.ptr (b := 8) (by kernel_rfl) (by kernel_rfl) rfl) <|
  .cons (.arrEq (b := 64) (k := .u8) (by kernel_rfl) (by kernel_rfl) rfl (by kernel_rfl) (by kernel_rfl) (by kernel_rfl)) <|
  .cons (.arr (b := 64) (by kernel_rfl) (by kernel_rfl) rfl (by kernel_rfl) (by kernel_rfl)) <|
  .cons (.arrEq (b := 256) (k := .u64) (by kernel_rfl) (by kernel_rfl) rfl (by kernel_rfl) (by kernel_rfl) (by kernel_rfl)) <|
  .cons (.ptr (b := 8) (by kernel_rfl) (by kernel_rfl) rfl) <|
  .cons (.st (b := 40) (by kernel_rfl) (by kernel_rfl) rfl) <|
  .cons (.st (b := 40) (by kernel_rfl) (by kernel_rfl) rfl) <|
  .cons (.ptr (b := 8) (by kernel_rfl) (by kernel_rfl) rfl) <|
  .cons (.ptr (b := 8) (by kernel_rfl) (by kernel_rfl) rfl) <|
  .cons (.st (b := 16) (by kernel_rfl) (by kernel_rfl) rfl) <|
  .cons (.st (b := 16) (by kernel_rfl) (by kernel_rfl) rfl) <|
  .cons (.st (b := 16) (by kernel_rfl) (by kernel_rfl) rfl) <|
  .cons (.st (b := 16) (by kernel_rfl) (by kernel_rfl) rfl) <|
  .cons (.ptr (b := 8) (by kernel_rfl) (by kernel_rfl) rfl) <|
  TysOk.nil

noncomputable def bodyOf (f : Func) : Code := f.body.getD .skip
/-- conditions decided (true), or handed back (false) -/
noncomputable def cxb (c : Bool) : Cx := ⟨T0, 4, c⟩

noncomputable def H0 (c : Bool) : Hook := fun _ _ _ _ => none
theorem H0ok (B : Nat) (c : Bool) : HookOk P0 B 4 (H0 c) := HookOk.none P0 B 4
theorem bodyEq {f : Func} {c : Code} (h : f.body = some c) : f.body = some (bodyOf f) := by unfold bodyOf; rw [h]; rfl
end Go.Sx
