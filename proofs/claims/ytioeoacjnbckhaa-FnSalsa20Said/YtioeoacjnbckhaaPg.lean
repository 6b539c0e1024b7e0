/- The program, its types, and how its functions are walked into. Conditions: none. -/
import Derived.Test.YtioeoacjnbckhaaSx34
import Derived.Test.YtioeoacjnbckhaaProg
import Derived.KernelRfl
set_option maxRecDepth 1000000
set_option linter.unusedVariables false
namespace Go.Sx
open Go.Proofs

noncomputable def P0 : Program := Try.prog
theorem mix : P0.follows .mixedOrders = true := by kernel_rfl
noncomputable def T0 : Tys := [(5, ⟨.int .u8, 1, [.d8 [0]], false⟩),
  (3, ⟨.int .i64, 1, [.di [0]], false⟩),
  (62, ⟨.int .u32, 1, [.d32 [0]], false⟩),
  (74, ⟨.int .u64, 1, [.d64 [0]], false⟩),
  (26, ⟨.slc 5 1 false 1, 1, [.dc [.sl0]], false⟩),
  (63, ⟨.arr 16 62 1 false, 16, [.d32 (List.replicate 16 0)], true⟩),
  (4, ⟨.bool, 1, [.dc [.b false]], false⟩),
  (80, ⟨.int .u64, 1, [.d64 [0]], false⟩),
  (9, ⟨.str, 1, [.dc [.str []]], false⟩),
  (2, ⟨.int .i64, 1, [.di [0]], false⟩),
  (12, ⟨.int .u64, 1, [.d64 [0]], false⟩),
  (20, ⟨.ifc, 1, [.dc [.f0]], false⟩),
  (22, ⟨.arr 16 5 1 false, 16, [.d8 (List.replicate 16 0)], true⟩),
  (23, ⟨.arr 32 5 1 false, 32, [.d8 (List.replicate 32 0)], true⟩),
  (28, ⟨.arr 64 5 1 false, 64, [.d8 (List.replicate 64 0)], true⟩),
  (38, ⟨.slc 3 1 false 8, 1, [.dc [.sl0]], false⟩),
  (45, ⟨.arr 24 5 1 false, 24, [.d8 (List.replicate 24 0)], true⟩),
  (59, ⟨.ptr 23, 1, [.dc [.p0]], false⟩),
  (60, ⟨.ptr 22, 1, [.dc [.p0]], false⟩),
  (66, ⟨.arr 8 3 1 false, 8, [.di (List.replicate 8 0)], false⟩),
  (68, ⟨.ptr 28, 1, [.dc [.p0]], false⟩),
  (70, ⟨.slc 26 1 false 24, 1, [.dc [.sl0]], false⟩),
  (75, ⟨.arr 9 74 1 false, 9, [.d64 (List.replicate 9 0)], true⟩),
  (78, ⟨.arr 18 74 1 false, 18, [.d64 (List.replicate 18 0)], true⟩),
  (82, ⟨.ptr 110, 1, [.dc [.p0]], false⟩),
  (84, ⟨.ifc, 1, [.dc [.f0]], false⟩),
  (85, ⟨.ifc, 1, [.dc [.f0]], false⟩),
  (90, ⟨.ptr 45, 1, [.dc [.p0]], false⟩),
  (96, ⟨.ptr 63, 1, [.dc [.p0]], false⟩),
  (98, ⟨.slc 74 1 false 8, 1, [.dc [.sl0]], false⟩),
  (101, ⟨.arr 3 74 1 false, 3, [.d64 (List.replicate 3 0)], true⟩),
  (102, ⟨.arr 2 74 1 false, 2, [.d64 (List.replicate 2 0)], true⟩),
  (103, ⟨.st [(0, 3, true), (3, 2, true), (5, 2, true)], 7, [.d64 (List.replicate 3 0), .d64 (List.replicate 2 0), .d64 (List.replicate 2 0)], false⟩),
  (104, ⟨.st [(0, 3, true), (3, 2, true), (5, 2, true)], 7, [.d64 (List.replicate 3 0), .d64 (List.replicate 2 0), .d64 (List.replicate 2 0)], false⟩),
  (105, ⟨.st [(0, 7, true), (7, 16, true), (23, 1, false)], 24, [.d64 (List.replicate 3 0), .d64 (List.replicate 2 0), .d64 (List.replicate 2 0), .d8 (List.replicate 16 0), .di [0]], false⟩),
  (106, ⟨.st [(0, 7, true), (7, 16, true), (23, 1, false)], 24, [.d64 (List.replicate 3 0), .d64 (List.replicate 2 0), .d64 (List.replicate 2 0), .d8 (List.replicate 16 0), .di [0]], false⟩),
  (107, ⟨.st [(0, 24, true)], 24, [.d64 (List.replicate 3 0), .d64 (List.replicate 2 0), .d64 (List.replicate 2 0), .d8 (List.replicate 16 0), .di [0]], false⟩),
  (108, ⟨.st [(0, 24, true)], 24, [.d64 (List.replicate 3 0), .d64 (List.replicate 2 0), .d64 (List.replicate 2 0), .d8 (List.replicate 16 0), .di [0]], false⟩),
  (109, ⟨.st [(0, 24, true), (24, 1, false)], 25, [.d64 (List.replicate 3 0), .d64 (List.replicate 2 0), .d64 (List.replicate 2 0), .d8 (List.replicate 16 0), .di [0], .dc [.b false]], false⟩),
  (110, ⟨.st [(0, 24, true), (24, 1, false)], 25, [.d64 (List.replicate 3 0), .d64 (List.replicate 2 0), .d64 (List.replicate 2 0), .d8 (List.replicate 16 0), .di [0], .dc [.b false]], false⟩),
  (112, ⟨.ptr 104, 1, [.dc [.p0]], false⟩),
  (125, ⟨.st [], 0, [], false⟩),
  (126, ⟨.st [], 0, [], false⟩),
  (128, ⟨.ptr 106, 1, [.dc [.p0]], false⟩),
  (131, ⟨.ptr 101, 1, [.dc [.p0]], false⟩),
  (132, ⟨.ptr 102, 1, [.dc [.p0]], false⟩),
  (135, ⟨.ifc, 1, [.dc [.f0]], false⟩),
  (140, ⟨.arr 8 74 1 false, 8, [.d64 (List.replicate 8 0)], true⟩),
  (141, ⟨.arr 128 5 1 false, 128, [.d8 (List.replicate 128 0)], true⟩),
  (142, ⟨.st [(0, 8, true), (8, 128, true), (136, 1, false), (137, 1, false), (138, 1, false)], 139, [.d64 (List.replicate 8 0), .d8 (List.replicate 128 0), .di [0], .d64 [0], .di [0]], false⟩),
  (144, ⟨.ifc, 1, [.dc [.f0]], false⟩),
  (150, ⟨.st [(0, 1, false), (1, 1, false)], 2, [.d64 [0], .d64 [0]], false⟩),
  (151, ⟨.st [(0, 1, false), (1, 1, false)], 2, [.d64 [0], .d64 [0]], false⟩),
  (168, ⟨.ptr 5, 1, [.dc [.p0]], false⟩),
  (183, ⟨.arr 144 5 1 false, 144, [.d8 (List.replicate 144 0)], true⟩),
  (184, ⟨.ptr 186, 1, [.dc [.p0]], false⟩),
  (185, ⟨.st [(0, 1, false)], 1, [.dc [.str []]], false⟩),
  (186, ⟨.st [(0, 1, false)], 1, [.dc [.str []]], false⟩),
  (187, ⟨.arr 80 74 1 false, 80, [.d64 (List.replicate 80 0)], true⟩)]
theorem T0ok : TysOk P0 T0 :=
  .cons (.int (b := 1) (by kernel_rfl) (by kernel_rfl) rfl) <|
  .cons (.int (b := 8) (by kernel_rfl) (by kernel_rfl) rfl) <|
  .cons (.int (b := 4) (by kernel_rfl) (by kernel_rfl) rfl) <|
  .cons (.int (b := 8) (by kernel_rfl) (by kernel_rfl) rfl) <|
  .cons (.slc (b := 24) (zo := some #[.int .u8 0]) (by kernel_rfl) (by kernel_rfl) rfl (by kernel_rfl) (by kernel_rfl)) <|
  .cons (.arrEq (b := 64) (k := .u32) (by kernel_rfl) (by kernel_rfl) rfl (by kernel_rfl) (by kernel_rfl) (by kernel_rfl)) <|
  .cons (.bool (b := 1) (by kernel_rfl) (by kernel_rfl) rfl) <|
  .cons (.int (b := 8) (by kernel_rfl) (by kernel_rfl) rfl) <|
  .cons (.str (b := 16) (by kernel_rfl) (by kernel_rfl) rfl) <|
  .cons (.int (b := 8) (by kernel_rfl) (by kernel_rfl) rfl) <|
  .cons (.int (b := 8) (by kernel_rfl) (by kernel_rfl) rfl) <|
  .cons (.ifc' (b := 16) (by kernel_rfl) (by kernel_rfl) rfl) <|
  .cons (.arrEq (b := 16) (k := .u8) (by kernel_rfl) (by kernel_rfl) rfl (by kernel_rfl) (by kernel_rfl) (by kernel_rfl)) <|
  .cons (.arrEq (b := 32) (k := .u8) (by kernel_rfl) (by kernel_rfl) rfl (by kernel_rfl) (by kernel_rfl) (by kernel_rfl)) <|
  .cons (.arrEq (b := 64) (k := .u8) (by kernel_rfl) (by kernel_rfl) rfl (by kernel_rfl) (by kernel_rfl) (by kernel_rfl)) <|
  .cons (.slc (b := 24) (zo := some #[.int .i64 0]) (by kernel_rfl) (by kernel_rfl) rfl (by kernel_rfl) (by kernel_rfl)) <|
  .cons (.arrEq (b := 24) (k := .u8) (by kernel_rfl) (by kernel_rfl) rfl (by kernel_rfl) (by kernel_rfl) (by kernel_rfl)) <|
  .cons (.ptr (b := 8) (by kernel_rfl) (by kernel_rfl) rfl) <|
  .cons (.ptr (b := 8) (by kernel_rfl) (by kernel_rfl) rfl) <|
  .cons (.arr (b := 64) (by kernel_rfl) (by kernel_rfl) rfl (by kernel_rfl) (by kernel_rfl)) <|
  .cons (.ptr (b := 8) (by kernel_rfl) (by kernel_rfl) rfl) <|
  .cons (.slc (b := 24) (zo := some (zCells [.dc [.sl0]])) (by kernel_rfl) (by kernel_rfl) rfl (by kernel_rfl) (by kernel_rfl)) <|
  .cons (.arrEq (b := 72) (k := .u64) (by kernel_rfl) (by kernel_rfl) rfl (by kernel_rfl) (by kernel_rfl) (by kernel_rfl)) <|
  .cons (.arrEq (b := 144) (k := .u64) (by kernel_rfl) (by kernel_rfl) rfl (by kernel_rfl) (by kernel_rfl) (by kernel_rfl)) <|
  .cons (.ptr (b := 8) (by kernel_rfl) (by kernel_rfl) rfl) <|
  .cons (.ifc' (b := 16) (by kernel_rfl) (by kernel_rfl) rfl) <|
  .cons (.ifc' (b := 16) (by kernel_rfl) (by kernel_rfl) rfl) <|
  .cons (.ptr (b := 8) (by kernel_rfl) (by kernel_rfl) rfl) <|
  .cons (.ptr (b := 8) (by kernel_rfl) (by kernel_rfl) rfl) <|
  .cons (.slc (b := 24) (zo := some #[.int .u64 0]) (by kernel_rfl) (by kernel_rfl) rfl (by kernel_rfl) (by kernel_rfl)) <|
  .cons (.arrEq (b := 24) (k := .u64) (by kernel_rfl) (by kernel_rfl) rfl (by kernel_rfl) (by kernel_rfl) (by kernel_rfl)) <|
  .cons (.arrEq (b := 16) (k := .u64) (by kernel_rfl) (by kernel_rfl) rfl (by kernel_rfl) (by kernel_rfl) (by kernel_rfl)) <|
  .cons (.st (b := 56) (by kernel_rfl) (by kernel_rfl) rfl) <|
  .cons (.st (b := 56) (by kernel_rfl) (by kernel_rfl) rfl) <|
  .cons (.st (b := 80) (by kernel_rfl) (by kernel_rfl) rfl) <|
  .cons (.st (b := 80) (by kernel_rfl) (by kernel_rfl) rfl) <|
  .cons (.st (b := 80) (by kernel_rfl) (by kernel_rfl) rfl) <|
  .cons (.st (b := 80) (by kernel_rfl) (by kernel_rfl) rfl) <|
  .cons (.st (b := 88) (by kernel_rfl) (by kernel_rfl) rfl) <|
  .cons (.st (b := 88) (by kernel_rfl) (by kernel_rfl) rfl) <|
  .cons (.ptr (b := 8) (by kernel_rfl) (by kernel_rfl) rfl) <|
  .cons (.st (b := 0) (by kernel_rfl) (by kernel_rfl) rfl) <|
  .cons (.st (b := 0) (by kernel_rfl) (by kernel_rfl) rfl) <|
  .cons (.ptr (b := 8) (by kernel_rfl) (by kernel_rfl) rfl) <|
  .cons (.ptr (b := 8) (by kernel_rfl) (by kernel_rfl) rfl) <|
  .cons (.ptr (b := 8) (by kernel_rfl) (by kernel_rfl) rfl) <|
  .cons (.ifc' (b := 16) (by kernel_rfl) (by kernel_rfl) rfl) <|
  .cons (.arrEq (b := 64) (k := .u64) (by kernel_rfl) (by kernel_rfl) rfl (by kernel_rfl) (by kernel_rfl) (by kernel_rfl)) <|
  .cons (.arrEq (b := 128) (k := .u8) (by kernel_rfl) (by kernel_rfl) rfl (by kernel_rfl) (by kernel_rfl) (by kernel_rfl)) <|
  .cons (.st (b := 216) (by kernel_rfl) (by kernel_rfl) rfl) <|
  .cons (.ifc' (b := 16) (by kernel_rfl) (by kernel_rfl) rfl) <|
  .cons (.st (b := 16) (by kernel_rfl) (by kernel_rfl) rfl) <|
  .cons (.st (b := 16) (by kernel_rfl) (by kernel_rfl) rfl) <|
  .cons (.ptr (b := 8) (by kernel_rfl) (by kernel_rfl) rfl) <|
  .cons (.arrEq (b := 144) (k := .u8) (by kernel_rfl) (by kernel_rfl) rfl (by kernel_rfl) (by kernel_rfl) (by kernel_rfl)) <|
  .cons (.ptr (b := 8) (by kernel_rfl) (by kernel_rfl) rfl) <|
  .cons (.st (b := 16) (by kernel_rfl) (by kernel_rfl) rfl) <|
  .cons (.st (b := 16) (by kernel_rfl) (by kernel_rfl) rfl) <|
  .cons (.arrEq (b := 640) (k := .u64) (by kernel_rfl) (by kernel_rfl) rfl (by kernel_rfl) (by kernel_rfl) (by kernel_rfl)) <|
  TysOk.nil

noncomputable def bodyOf (f : Func) : Code := f.body.getD .skip
/-- conditions decided (true), or handed back (false) -/
noncomputable def cxb (c : Bool) : Cx := ⟨T0, 2, c⟩

noncomputable def H0 (c : Bool) : Hook := fun _ _ _ _ => none
theorem H0ok (B : Nat) (c : Bool) : HookOk P0 B 2 (H0 c) := HookOk.none P0 B 2
theorem bodyEq {f : Func} {c : Code} (h : f.body = some c) : f.body = some (bodyOf f) := by unfold bodyOf; rw [h]; rfl
end Go.Sx
