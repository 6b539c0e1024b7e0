/- The program, its types, and how its functions are walked into. Conditions: none. -/
import Derived.Test.YtbkobeclkeojoaaGreatDoorSx32
import Derived.Test.YtbkobeclkeojoaaGreatDoorProg
import Derived.KernelRfl
set_option maxRecDepth 1000000
set_option linter.unusedVariables false
namespace Go.Sx
open Go.Proofs

noncomputable def P0 : Program := Tryz.prog
theorem mix : P0.follows .mixedOrders = true := by kernel_rfl
noncomputable def T0 : Tys := [(5, ⟨.int .u8, 1, [.d8 [0]], false⟩),
  (3, ⟨.int .i64, 1, [.di [0]], false⟩),
  (50, ⟨.int .u32, 1, [.d32 [0]], false⟩),
  (41, ⟨.int .u64, 1, [.d64 [0]], false⟩),
  (22, ⟨.slc 5 1 false 1, 1, [.dc [.sl0]], false⟩),
  (51, ⟨.arr 16 50 1 false, 16, [.d32 (List.replicate 16 0)], true⟩),
  (4, ⟨.bool, 1, [.dc [.b false]], false⟩),
  (47, ⟨.int .u64, 1, [.d64 [0]], false⟩),
  (9, ⟨.str, 1, [.dc [.str []]], false⟩),
  (2, ⟨.int .i64, 1, [.di [0]], false⟩),
  (12, ⟨.int .u64, 1, [.d64 [0]], false⟩),
  (20, ⟨.ifc, 1, [.dc [.f0]], false⟩),
  (23, ⟨.arr 24 5 1 false, 24, [.d8 (List.replicate 24 0)], true⟩),
  (24, ⟨.arr 32 5 1 false, 32, [.d8 (List.replicate 32 0)], true⟩),
  (32, ⟨.slc 22 1 false 24, 1, [.dc [.sl0]], false⟩),
  (35, ⟨.arr 16 5 1 false, 16, [.d8 (List.replicate 16 0)], true⟩),
  (38, ⟨.ptr 23, 1, [.dc [.p0]], false⟩),
  (39, ⟨.ptr 24, 1, [.dc [.p0]], false⟩),
  (42, ⟨.arr 9 41 1 false, 9, [.d64 (List.replicate 9 0)], true⟩),
  (45, ⟨.arr 18 41 1 false, 18, [.d64 (List.replicate 18 0)], true⟩),
  (48, ⟨.arr 64 5 1 false, 64, [.d8 (List.replicate 64 0)], true⟩),
  (54, ⟨.arr 8 3 1 false, 8, [.di (List.replicate 8 0)], false⟩),
  (55, ⟨.arr 16 41 1 false, 16, [.d64 (List.replicate 16 0)], true⟩),
  (56, ⟨.arr 16 41 1 false, 16, [.d64 (List.replicate 16 0)], true⟩),
  (60, ⟨.arr 5 56 16 true, 80, [.d64 (List.replicate 80 0)], false⟩),
  (71, ⟨.slc 41 1 false 8, 1, [.dc [.sl0]], false⟩),
  (73, ⟨.ptr 51, 1, [.dc [.p0]], false⟩),
  (74, ⟨.arr 32 41 1 false, 32, [.d64 (List.replicate 32 0)], true⟩),
  (78, ⟨.ptr 35, 1, [.dc [.p0]], false⟩),
  (87, ⟨.ifc, 1, [.dc [.f0]], false⟩),
  (88, ⟨.ifc, 1, [.dc [.f0]], false⟩),
  (91, ⟨.ptr 109, 1, [.dc [.p0]], false⟩),
  (99, ⟨.ptr 48, 1, [.dc [.p0]], false⟩),
  (100, ⟨.arr 3 41 1 false, 3, [.d64 (List.replicate 3 0)], true⟩),
  (101, ⟨.arr 2 41 1 false, 2, [.d64 (List.replicate 2 0)], true⟩),
  (102, ⟨.st [(0, 3, true), (3, 2, true), (5, 2, true)], 7, [.d64 (List.replicate 7 0)], false⟩),
  (103, ⟨.st [(0, 3, true), (3, 2, true), (5, 2, true)], 7, [.d64 (List.replicate 7 0)], false⟩),
  (104, ⟨.st [(0, 7, true), (7, 16, true), (23, 1, false)], 24, [.d64 (List.replicate 7 0), .d8 (List.replicate 16 0), .di [0]], false⟩),
  (105, ⟨.st [(0, 7, true), (7, 16, true), (23, 1, false)], 24, [.d64 (List.replicate 7 0), .d8 (List.replicate 16 0), .di [0]], false⟩),
  (106, ⟨.st [(0, 24, true)], 24, [.d64 (List.replicate 7 0), .d8 (List.replicate 16 0), .di [0]], false⟩),
  (107, ⟨.st [(0, 24, true)], 24, [.d64 (List.replicate 7 0), .d8 (List.replicate 16 0), .di [0]], false⟩),
  (108, ⟨.st [(0, 24, true), (24, 1, false)], 25, [.d64 (List.replicate 7 0), .d8 (List.replicate 16 0), .di [0], .dc [.b false]], false⟩),
  (109, ⟨.st [(0, 24, true), (24, 1, false)], 25, [.d64 (List.replicate 7 0), .d8 (List.replicate 16 0), .di [0], .dc [.b false]], false⟩),
  (111, ⟨.ptr 103, 1, [.dc [.p0]], false⟩),
  (113, ⟨.st [(0, 1, false), (1, 1, false), (2, 1, false), (3, 1, false), (4, 1, false)], 5, [.d64 (List.replicate 5 0)], false⟩),
  (114, ⟨.st [(0, 1, false), (1, 1, false), (2, 1, false), (3, 1, false), (4, 1, false)], 5, [.d64 (List.replicate 5 0)], false⟩),
  (115, ⟨.ptr 114, 1, [.dc [.p0]], false⟩),
  (124, ⟨.ptr 126, 1, [.dc [.p0]], false⟩),
  (125, ⟨.st [(0, 1, false)], 1, [.dc [.str []]], false⟩),
  (126, ⟨.st [(0, 1, false)], 1, [.dc [.str []]], false⟩),
  (127, ⟨.st [], 0, [], false⟩),
  (128, ⟨.st [], 0, [], false⟩),
  (130, ⟨.ptr 105, 1, [.dc [.p0]], false⟩),
  (133, ⟨.ptr 100, 1, [.dc [.p0]], false⟩),
  (134, ⟨.ptr 101, 1, [.dc [.p0]], false⟩),
  (143, ⟨.st [(0, 1, false), (1, 1, false)], 2, [.d64 (List.replicate 2 0)], false⟩),
  (144, ⟨.st [(0, 1, false), (1, 1, false)], 2, [.d64 (List.replicate 2 0)], false⟩),
  (151, ⟨.st [(0, 1, false), (1, 1, false)], 2, [.d64 (List.replicate 2 0)], false⟩),
  (152, ⟨.st [(0, 1, false), (1, 1, false)], 2, [.d64 (List.replicate 2 0)], false⟩),
  (168, ⟨.ptr 5, 1, [.dc [.p0]], false⟩)]
theorem T0ok : TysOk P0 T0 :=
  .cons (.int (b := 1) (by kernel_rfl) (by kernel_rfl) rfl) <|
  .cons (.int (b := 8) (by kernel_rfl) (by kernel_rfl) rfl) <|
  .cons (.int (b := 4) (by kernel_rfl) (by kernel_rfl) rfl) <|
  .cons (.int (b := 8) (by kernel_rfl) (by kernel_rfl) rfl) <|
  .cons (.slc (b := 24) (zo := some #[.int .u8 0]) (by kernel_rfl) (by kernel_rfl) rfl (by kernel_rfl) (by kernel_rfl)) <|
  .cons (.arrEq (b := 64) (k := .u32) (by kernel_rfl) (by kernel_rfl) rfl (by kernel_rfl) (by kernel_rfl) (by kernel_rfl)) <|
  .cons (.bool (b := 1) (by kernel_rfl) (by kernel_rfl) rfl) <|
  .cons (.int (b := 8) (by kernel_rfl) (by kernel_rfl) rfl) <|
  .cons (.str (b := 16) (by kernel_rfl) (by kernel_rfl) rfl) <|
  .cons (.int (b := 8) (by kernel_rfl) (by kernel_rfl) rfl) <|
  .cons (.int (b := 8) (by kernel_rfl) (by kernel_rfl) rfl) <|
  .cons (.ifc' (b := 16) (by kernel_rfl) (by kernel_rfl) rfl) <|
  .cons (.arrEq (b := 24) (k := .u8) (by kernel_rfl) (by kernel_rfl) rfl (by kernel_rfl) (by kernel_rfl) (by kernel_rfl)) <|
  .cons (.arrEq (b := 32) (k := .u8) (by kernel_rfl) (by kernel_rfl) rfl (by kernel_rfl) (by kernel_rfl) (by kernel_rfl)) <|
  .cons (.slc (b := 24) (zo := some (zCells [.dc [.sl0]])) (by kernel_rfl) (by kernel_rfl) rfl (by kernel_rfl) (by kernel_rfl)) <|
  .cons (.arrEq (b := 16) (k := .u8) (by kernel_rfl) (by kernel_rfl) rfl (by kernel_rfl) (by kernel_rfl) (by kernel_rfl)) <|
  .cons (.ptr (b := 8) (by kernel_rfl) (by kernel_rfl) rfl) <|
  .cons (.ptr (b := 8) (by kernel_rfl) (by kernel_rfl) rfl) <|
  .cons (.arrEq (b := 72) (k := .u64) (by kernel_rfl) (by kernel_rfl) rfl (by kernel_rfl) (by kernel_rfl) (by kernel_rfl)) <|
  .cons (.arrEq (b := 144) (k := .u64) (by kernel_rfl) (by kernel_rfl) rfl (by kernel_rfl) (by kernel_rfl) (by kernel_rfl)) <|
  .cons (.arrEq (b := 64) (k := .u8) (by kernel_rfl) (by kernel_rfl) rfl (by kernel_rfl) (by kernel_rfl) (by kernel_rfl)) <|
  .cons (.arr (b := 64) (by kernel_rfl) (by kernel_rfl) rfl (by kernel_rfl) (by kernel_rfl)) <|
  .cons (.arrEq (b := 128) (k := .u64) (by kernel_rfl) (by kernel_rfl) rfl (by kernel_rfl) (by kernel_rfl) (by kernel_rfl)) <|
  .cons (.arrEq (b := 128) (k := .u64) (by kernel_rfl) (by kernel_rfl) rfl (by kernel_rfl) (by kernel_rfl) (by kernel_rfl)) <|
  .cons (.arr (b := 640) (by kernel_rfl) (by kernel_rfl) rfl (by kernel_rfl) (by kernel_rfl)) <|
  .cons (.slc (b := 24) (zo := some #[.int .u64 0]) (by kernel_rfl) (by kernel_rfl) rfl (by kernel_rfl) (by kernel_rfl)) <|
  .cons (.ptr (b := 8) (by kernel_rfl) (by kernel_rfl) rfl) <|
  .cons (.arrEq (b := 256) (k := .u64) (by kernel_rfl) (by kernel_rfl) rfl (by kernel_rfl) (by kernel_rfl) (by kernel_rfl)) <|
  .cons (.ptr (b := 8) (by kernel_rfl) (by kernel_rfl) rfl) <|
  .cons (.ifc' (b := 16) (by kernel_rfl) (by kernel_rfl) rfl) <|
  .cons (.ifc' (b := 16) (by kernel_rfl) (by kernel_rfl) rfl) <|
  .cons (.ptr (b := 8) (by kernel_rfl) (by kernel_rfl) rfl) <|
  .cons (.ptr (b := 8) (by kernel_rfl) (by kernel_rfl) rfl) <|
  .cons (.arrEq (b := 24) (k := .u64) (by kernel_rfl) (by kernel_rfl) rfl (by kernel_rfl) (by kernel_rfl) (by kernel_rfl)) <|
  .cons (.arrEq (b := 16) (k := .u64) (by kernel_rfl) (by kernel_rfl) rfl (by kernel_rfl) (by kernel_rfl) (by kernel_rfl)) <|
  .cons (.st (b := 56) (by kernel_rfl) (by kernel_rfl) rfl) <|
  .cons (.st (b := 56) (by kernel_rfl) (by kernel_rfl) rfl) <|
  .cons (.st (b := 80) (by kernel_rfl) (by kernel_rfl) rfl) <|
  .cons (.st (b := 80) (by kernel_rfl) (by kernel_rfl) rfl) <|
  .cons (.st (b := 80) (by kernel_rfl) (by kernel_rfl) rfl) <|
  .cons (.st (b := 80) (by kernel_rfl) (by kernel_rfl) rfl) <|
  .cons (.st (b := 88) (by kernel_rfl) (by kernel_rfl) rfl) <|
  .cons (.st (b := 88) (by kernel_rfl) (by kernel_rfl) rfl) <|
  .cons (.ptr (b := 8) (by kernel_rfl) (by kernel_rfl) rfl) <|
  .cons (.st (b := 40) (by kernel_rfl) (by kernel_rfl) rfl) <|
  .cons (.st (b := 40) (by kernel_rfl) (by kernel_rfl) rfl) <|
  .cons (.ptr (b := 8) (by kernel_rfl) (by kernel_rfl) rfl) <|
  .cons (.ptr (b := 8) (by kernel_rfl) (by kernel_rfl) rfl) <|
  .cons (.st (b := 16) (by kernel_rfl) (by kernel_rfl) rfl) <|
  .cons (.st (b := 16) (by kernel_rfl) (by kernel_rfl) rfl) <|
  .cons (.st (b := 0) (by kernel_rfl) (by kernel_rfl) rfl) <|
  .cons (.st (b := 0) (by kernel_rfl) (by kernel_rfl) rfl) <|
  .cons (.ptr (b := 8) (by kernel_rfl) (by kernel_rfl) rfl) <|
  .cons (.ptr (b := 8) (by kernel_rfl) (by kernel_rfl) rfl) <|
  .cons (.ptr (b := 8) (by kernel_rfl) (by kernel_rfl) rfl) <|
  .cons (.st (b := 16) (by kernel_rfl) (by kernel_rfl) rfl) <|
  .cons (.st (b := 16) (by kernel_rfl) (by kernel_rfl) rfl) <|
  .cons (.st (b := 16) (by kernel_rfl) (by kernel_rfl) rfl) <|
  .cons (.st (b := 16) (by kernel_rfl) (by kernel_rfl) rfl) <|
  .cons (.ptr (b := 8) (by kernel_rfl) (by kernel_rfl) rfl) <|
  TysOk.nil

noncomputable def bodyOf (f : Func) : Code := f.body.getD .skip
/-- conditions decided (true), or handed back (false) -/
noncomputable def cxb (c : Bool) : Cx := ⟨T0, 2, c⟩

noncomputable def H0 (c : Bool) : Hook := fun _ _ _ _ => none
theorem H0ok (B : Nat) (c : Bool) : HookOk P0 B 2 (H0 c) := HookOk.none P0 B 2
end Go.Sx
