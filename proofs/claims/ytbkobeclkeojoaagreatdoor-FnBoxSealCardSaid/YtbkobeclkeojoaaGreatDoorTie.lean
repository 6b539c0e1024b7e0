/-
  DERIVED. GIVEN WITH THE SEED: THE PROGRAM's TIES (one call each: nine closed facts by the kernel) AND EACH ROW's TIE, after the 31st guide's Derived/Test/Toyas{Tie, Card}.lean. No idea stands in it: it is a product of the set-up. Laid BY PROGRAM, IN A SANDBOX (cutbox-door.mjs). By AI agents, Wed Nov 11 2026. No macro, syntax, notation, axiom, sorry.
-/
import Derived.Test.YtbkobeclkeojoaaGreatDoorRows
import Derived.LaidByTextLater
import Derived.SevenTiedAt
import Derived.LaidSub
import Derived.LaidOnce
namespace Go.Proofs.YtbkobeclkeojoaaGreatDoor
open Go
set_option maxRecDepth 100000
theorem seatTie1 : Tryz.prog.laidByTextLater [("loop.example/pub-g03045/pub/field.feOne", Rows.laid_loop_example_pub_g03045_pub_field_feOne)] [.widerDeep] true :=
  Program.laidByTextLater_by_one 15 8 6 (by kernel_rfl) (by kernel_rfl) (by kernel_rfl) (by kernel_rfl) (by kernel_rfl) (by kernel_rfl) (fun _ _ => by kernel_rfl)
theorem noOwnUnsafe : Tryz.pinned.checked.prog.headLifts.contains "ownunsafe" = false := by kernel_rfl
theorem tie : Tryz.prog.laidByTextLater [("loop.example/pub-g03045/pub/field.feOne", Rows.laid_loop_example_pub_g03045_pub_field_feOne)] [.widerDeep] true :=
  Program.laidByTextLater.sub seatTie1 ["loop.example/pub-g03045/pub/field.feOne"] (by kernel_rfl) (by kernel_rfl)
theorem fnBoxSeal_row_tie : Rows.fnBoxSealRow.laidByTextAt .later Tryz.pinned [.widerDeep] true :=
  OpenClaim.laidByTextAt_later rfl rfl tie noOwnUnsafe
theorem fnBoxSealUpto_row_tie : Rows.fnBoxSealUptoRow.laidByTextAt .later Tryz.pinned [.widerDeep] true :=
  OpenClaim.laidByTextAt_later rfl rfl tie noOwnUnsafe
end Go.Proofs.YtbkobeclkeojoaaGreatDoor
