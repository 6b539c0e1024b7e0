/- The program, its types, and how its functions are walked into. Conditions: none. -/
import Derived.Test.YtbkobeclkeojoaaDoorSx32
import Derived.Test.YtbkobeclkeojoaaDoorProg
import Derived.KernelRfl
set_option maxRecDepth 1000000
set_option linter.unusedVariables false
namespace Go.Sx
open Go.Proofs

noncomputable def P0 : Program := Tryd.prog
theorem mix : P0.follows .mixedOrders = true := by kernel_rfl
noncomputable def T0 : Tys := [(5, ⟨.int .u8, 1, [.d8 [0]], false⟩),
  (3, ⟨.int .i64, 1, [.di [0]], false⟩),
  (72, ⟨.int .u32, 1, [.d32 [0]], false⟩),
  (82, ⟨.int .u64, 1, [.d64 [0]], false⟩),
  (22, ⟨.slc 5 1 false 1, 1, [.dc [.sl0]], false⟩),
  (4, ⟨.bool, 1, [.dc [.b false]], false⟩),
  (73, ⟨.int .u64, 1, [.d64 [0]], false⟩),
  (9, ⟨.str, 1, [.dc [.str []]], false⟩),
  (2, ⟨.int .i64, 1, [.di [0]], false⟩),
  (12, ⟨.int .u64, 1, [.d64 [0]], false⟩),
  (20, ⟨.ifc, 1, [.dc [.f0]], false⟩),
  (23, ⟨.arr 24 5 1 false, 24, [.d8 (List.replicate 24 0)], true⟩),
  (24, ⟨.arr 32 5 1 false, 32, [.d8 (List.replicate 32 0)], true⟩),
  (36, ⟨.slc 22 1 false 24, 1, [.dc [.sl0]], false⟩),
  (37, ⟨.ptr 24, 1, [.dc [.p0]], false⟩),
  (38, ⟨.ifc, 1, [.dc [.f0]], false⟩),
  (39, ⟨.ifc, 1, [.dc [.f0]], false⟩),
  (42, ⟨.mp "Read" 104, 1, [.dc [.p0]], false⟩),
  (43, ⟨.st [(0, 1, false)], 1, [.dc [.sl0]], false⟩),
  (44, ⟨.st [(0, 1, false)], 1, [.dc [.sl0]], false⟩),
  (47, ⟨.ptr 23, 1, [.dc [.p0]], false⟩),
  (51, ⟨.ifc, 1, [.dc [.f0]], false⟩),
  (52, ⟨.ifc, 1, [.dc [.f0]], false⟩),
  (57, ⟨.arr 16 5 1 false, 16, [.d8 (List.replicate 16 0)], true⟩),
  (59, ⟨.ptr 57, 1, [.dc [.p0]], false⟩),
  (64, ⟨.arr 64 5 1 false, 64, [.d8 (List.replicate 64 0)], true⟩),
  (77, ⟨.ptr 105, 1, [.dc [.p0]], false⟩),
  (83, ⟨.st [(0, 1, false), (1, 1, false), (2, 1, false), (3, 1, false), (4, 1, false)], 5, [.d64 (List.replicate 5 0)], false⟩),
  (84, ⟨.st [(0, 1, false), (1, 1, false), (2, 1, false), (3, 1, false), (4, 1, false)], 5, [.d64 (List.replicate 5 0)], false⟩),
  (85, ⟨.ptr 84, 1, [.dc [.p0]], false⟩),
  (95, ⟨.ptr 64, 1, [.dc [.p0]], false⟩),
  (96, ⟨.arr 3 82 1 false, 3, [.d64 (List.replicate 3 0)], true⟩),
  (97, ⟨.arr 2 82 1 false, 2, [.d64 (List.replicate 2 0)], true⟩),
  (98, ⟨.st [(0, 3, true), (3, 2, true), (5, 2, true)], 7, [.d64 (List.replicate 7 0)], false⟩),
  (99, ⟨.st [(0, 3, true), (3, 2, true), (5, 2, true)], 7, [.d64 (List.replicate 7 0)], false⟩),
  (100, ⟨.st [(0, 7, true), (7, 16, true), (23, 1, false)], 24, [.d64 (List.replicate 7 0), .d8 (List.replicate 16 0), .di [0]], false⟩),
  (101, ⟨.st [(0, 7, true), (7, 16, true), (23, 1, false)], 24, [.d64 (List.replicate 7 0), .d8 (List.replicate 16 0), .di [0]], false⟩),
  (102, ⟨.st [(0, 24, true)], 24, [.d64 (List.replicate 7 0), .d8 (List.replicate 16 0), .di [0]], false⟩),
  (103, ⟨.st [(0, 24, true)], 24, [.d64 (List.replicate 7 0), .d8 (List.replicate 16 0), .di [0]], false⟩),
  (104, ⟨.st [(0, 24, true), (24, 1, false)], 25, [.d64 (List.replicate 7 0), .d8 (List.replicate 16 0), .di [0], .dc [.b false]], false⟩),
  (105, ⟨.st [(0, 24, true), (24, 1, false)], 25, [.d64 (List.replicate 7 0), .d8 (List.replicate 16 0), .di [0], .dc [.b false]], false⟩),
  (107, ⟨.ptr 99, 1, [.dc [.p0]], false⟩),
  (109, ⟨.ptr 111, 1, [.dc [.p0]], false⟩),
  (110, ⟨.st [(0, 1, false)], 1, [.dc [.str []]], false⟩),
  (111, ⟨.st [(0, 1, false)], 1, [.dc [.str []]], false⟩),
  (120, ⟨.st [], 0, [], false⟩),
  (121, ⟨.st [], 0, [], false⟩),
  (122, ⟨.ptr 101, 1, [.dc [.p0]], false⟩),
  (125, ⟨.ptr 96, 1, [.dc [.p0]], false⟩),
  (126, ⟨.ptr 97, 1, [.dc [.p0]], false⟩),
  (129, ⟨.st [(0, 1, false), (1, 1, false)], 2, [.d64 (List.replicate 2 0)], false⟩),
  (130, ⟨.st [(0, 1, false), (1, 1, false)], 2, [.d64 (List.replicate 2 0)], false⟩),
  (138, ⟨.st [(0, 1, false), (1, 1, false)], 2, [.d64 (List.replicate 2 0)], false⟩),
  (139, ⟨.st [(0, 1, false), (1, 1, false)], 2, [.d64 (List.replicate 2 0)], false⟩),
  (155, ⟨.ptr 5, 1, [.dc [.p0]], false⟩)]
theorem T0ok : TysOk P0 T0 :=
  .cons (.int (b := 1) (by kernel_rfl) (by kernel_rfl) rfl) <|
  .cons (.int (b := 8) (by kernel_rfl) (by kernel_rfl) rfl) <|
  .cons (.int (b := 4) (by kernel_rfl) (by kernel_rfl) rfl) <|
  .cons (.int (b := 8) (by kernel_rfl) (by kernel_rfl) rfl) <|
  .cons (.slc (b := 24) (zo := some #[.int .u8 0]) (by kernel_rfl) (by kernel_rfl) rfl (by kernel_rfl) (by kernel_rfl)) <|
  .cons (.bool (b := 1) (by kernel_rfl) (by kernel_rfl) rfl) <|
  .cons (.int (b := 8) (by kernel_rfl) (by kernel_rfl) rfl) <|
  .cons (.str (b := 16) (by kernel_rfl) (by kernel_rfl) rfl) <|
  .cons (.int (b := 8) (by kernel_rfl) (by kernel_rfl) rfl) <|
  .cons (.int (b := 8) (by kernel_rfl) (by kernel_rfl) rfl) <|
  .cons (.ifc' (b := 16) (by kernel_rfl) (by kernel_rfl) rfl) <|
  .cons (.arrEq (b := 24) (k := .u8) (by kernel_rfl) (by kernel_rfl) rfl (by kernel_rfl) (by kernel_rfl) (by kernel_rfl)) <|
  .cons (.arrEq (b := 32) (k := .u8) (by kernel_rfl) (by kernel_rfl) rfl (by kernel_rfl) (by kernel_rfl) (by kernel_rfl)) <|
  .cons (.slc (b := 24) (zo := some (zCells [.dc [.sl0]])) (by kernel_rfl) (by kernel_rfl) rfl (by kernel_rfl) (by kernel_rfl)) <|
  .cons (.ptr (b := 8) (by kernel_rfl) (by kernel_rfl) rfl) <|
  .cons (.ifc' (b := 16) (by kernel_rfl) (by kernel_rfl) rfl) <|
  .cons (.ifc' (b := 16) (by kernel_rfl) (by kernel_rfl) rfl) <|
  .cons (.mp (b := 8) (by kernel_rfl) (by kernel_rfl) rfl) <|
  .cons (.st (b := 24) (by kernel_rfl) (by kernel_rfl) rfl) <|
  .cons (.st (b := 24) (by kernel_rfl) (by kernel_rfl) rfl) <|
  .cons (.ptr (b := 8) (by kernel_rfl) (by kernel_rfl) rfl) <|
  .cons (.ifc' (b := 16) (by kernel_rfl) (by kernel_rfl) rfl) <|
  .cons (.ifc' (b := 16) (by kernel_rfl) (by kernel_rfl) rfl) <|
  .cons (.arrEq (b := 16) (k := .u8) (by kernel_rfl) (by kernel_rfl) rfl (by kernel_rfl) (by kernel_rfl) (by kernel_rfl)) <|
  .cons (.ptr (b := 8) (by kernel_rfl) (by kernel_rfl) rfl) <|
  .cons (.arrEq (b := 64) (k := .u8) (by kernel_rfl) (by kernel_rfl) rfl (by kernel_rfl) (by kernel_rfl) (by kernel_rfl)) <|
  .cons (.ptr (b := 8) (by kernel_rfl) (by kernel_rfl) rfl) <|
  .cons (.st (b := 40) (by kernel_rfl) (by kernel_rfl) rfl) <|
  .cons (.st (b := 40) (by kernel_rfl) (by kernel_rfl) rfl) <|
  .cons (.ptr (b := 8) (by kernel_rfl) (by kernel_rfl) rfl) <|
  .cons (.ptr (b := 8) (by kernel_rfl) (by kernel_rfl) rfl) <|
  .cons (.arrEq (b := 24) (k := .u64) (by kernel_rfl) (by kernel_rfl) rfl (by kernel_rfl) (by kernel_rfl) (by kernel_rfl)) <|
  .cons (.arrEq (b := 16) (k := .u64) (by kernel_rfl) (by kernel_rfl) rfl (by kernel_rfl) (by kernel_rfl) (by kernel_rfl)) <|
  .cons (.st (b := 56) (by kernel_rfl) (by kernel_rfl) rfl) <|
  .cons (.st (b := 56) (by kernel_rfl) (by kernel_rfl) rfl) <|
  .cons (.st (b := 80) (by kernel_rfl) (by kernel_rfl) rfl) <|
  .cons (.st (b := 80) (by kernel_rfl) (by kernel_rfl) rfl) <|
  .cons (.st (b := 80) (by kernel_rfl) (by kernel_rfl) rfl) <|
  .cons (.st (b := 80) (by kernel_rfl) (by kernel_rfl) rfl) <|
  .cons (.st (b := 88) (by kernel_rfl) (by kernel_rfl) rfl) <|
  .cons (.st (b := 88) (by kernel_rfl) (by kernel_rfl) rfl) <|
  .cons (.ptr (b := 8) (by kernel_rfl) (by kernel_rfl) rfl) <|
  .cons (.ptr (b := 8) (by kernel_rfl) (by kernel_rfl) rfl) <|
  .cons (.st (b := 16) (by kernel_rfl) (by kernel_rfl) rfl) <|
  .cons (.st (b := 16) (by kernel_rfl) (by kernel_rfl) rfl) <|
  .cons (.st (b := 0) (by kernel_rfl) (by kernel_rfl) rfl) <|
  .cons (.st (b := 0) (by kernel_rfl) (by kernel_rfl) rfl) <|
  .cons (.ptr (b := 8) (by kernel_rfl) (by kernel_rfl) rfl) <|
  .cons (.ptr (b := 8) (by kernel_rfl) (by kernel_rfl) rfl) <|
  .cons (.ptr (b := 8) (by kernel_rfl) (by kernel_rfl) rfl) <|
  .cons (.st (b := 16) (by kernel_rfl) (by kernel_rfl) rfl) <|
  .cons (.st (b := 16) (by kernel_rfl) (by kernel_rfl) rfl) <|
  .cons (.st (b := 16) (by kernel_rfl) (by kernel_rfl) rfl) <|
  .cons (.st (b := 16) (by kernel_rfl) (by kernel_rfl) rfl) <|
  .cons (.ptr (b := 8) (by kernel_rfl) (by kernel_rfl) rfl) <|
  TysOk.nil

noncomputable def bodyOf (f : Func) : Code := f.body.getD .skip
/-- conditions decided (true), or handed back (false) -/
noncomputable def cxb (c : Bool) : Cx := ⟨T0, 5, c⟩

noncomputable def H0 (c : Bool) : Hook := fun _ _ _ _ => none
theorem H0ok (B : Nat) (c : Bool) : HookOk P0 B 5 (H0 c) := HookOk.none P0 B 5
end Go.Sx
