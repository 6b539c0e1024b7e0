/-
  DERIVED. GIVEN WITH THE SEED: THE CARDS: each row of YtbkobeclkeojoaaGreatDoorRows.lean that lists a variable, with what it lists TIED to the program's text (the seventh form; the later family's looks); each row that meets fmt, with fmt's text TOLD by the authors' own Lean function (tested against real Go, not proved from fmt's source: count such statements apart). THE CARD IS WHAT COUNTS. Prove the row's statement (the work); the ties are given (YtbkobeclkeojoaaGreatDoorTie.lean); close each card by the builder's one call (the guide's Derived/Test/ToyasCard.lean, 'card_holds'). Laid BY PROGRAM, IN A SANDBOX (cutbox-door.mjs). By AI agents, Wed Nov 11 2026. No macro, syntax, notation, axiom, sorry.
-/
import Derived.Test.YtbkobeclkeojoaaGreatDoorRows
import GoSem.ClaimSeven
namespace Go.Proofs.YtbkobeclkeojoaaGreatDoor
namespace Rows

/-- THE TIED CARD OF 'laws.FnBoxSeal'. -/
def fnBoxSealCard : Claim7 := { stood := { row := fnBoxSealRow, standIns := [], harness := (true, "6d60e5bfcfe78e8c8df75b442dca5c2f87d4d8ccd71d4c50e353f7a786b1f71d"), looks := false }, kinds := [], alts := [], laidByText := true, laidKinds := [.widerDeep], laidTests := true, laidLooks := .later }
def FnBoxSealCardSaid : Prop := Claim7.holds Tryz.pinned (.plain (OpenSpec.ofChange fnBoxSealSpec)) fnBoxSealCard

/-- THE SECOND FORM's CARD OF 'laws.FnBoxSeal'. -/
def fnBoxSealUptoCard : Claim7 := { stood := { row := fnBoxSealUptoRow, standIns := [], harness := (true, "6d60e5bfcfe78e8c8df75b442dca5c2f87d4d8ccd71d4c50e353f7a786b1f71d"), looks := false }, kinds := [], alts := [], laidByText := true, laidKinds := [.widerDeep], laidTests := true, laidLooks := .later }
def FnBoxSealUptoCardSaid : Prop := Claim7.holds Tryz.pinned (.plain (OpenSpec.upto fnBoxSealSpec)) fnBoxSealUptoCard
end Rows
end Go.Proofs.YtbkobeclkeojoaaGreatDoor
