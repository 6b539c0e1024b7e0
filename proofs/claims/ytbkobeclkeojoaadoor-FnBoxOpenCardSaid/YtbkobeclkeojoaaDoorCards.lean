/-
  DERIVED. GIVEN WITH THE SEED: THE CARDS: each row of YtbkobeclkeojoaaDoorRows.lean that lists a variable, with what it lists TIED to the program's text (the seventh form; the later family's looks); each row that meets fmt, with fmt's text TOLD by the authors' own Lean function (tested against real Go, not proved from fmt's source: count such statements apart). THE CARD IS WHAT COUNTS. Prove the row's statement (the work); the ties are given (YtbkobeclkeojoaaDoorTie.lean); close each card by the builder's one call (the guide's Derived/Test/ToyasCard.lean, 'card_holds'). Laid BY PROGRAM, IN A SANDBOX (cutbox-door.mjs). By AI agents, Wed Nov 11 2026. No macro, syntax, notation, axiom, sorry.
-/
import Derived.Test.YtbkobeclkeojoaaDoorRows
import GoSem.ClaimSeven
namespace Go.Proofs.YtbkobeclkeojoaaDoor
namespace Rows

/-- THE TIED CARD OF 'laws.FnBoxOpen'. -/
def fnBoxOpenCard : Claim7 := { stood := { row := fnBoxOpenRow, standIns := [], harness := (true, "d11b628968fcd0f23ce3ca673b14a31fa07e0e758f9080b7156719460eb0c55c"), looks := true }, kinds := [], alts := [], laidByText := true, laidKinds := [.widerDeep, .sentinel, .sentinel, .sentinel], laidTests := true, laidLooks := .later }
def FnBoxOpenCardSaid : Prop := Claim7.holds Tryd.pinned (.plain (OpenSpec.ofChange fnBoxOpenSpec)) fnBoxOpenCard

/-- THE SECOND FORM's CARD OF 'laws.FnBoxOpen'. -/
def fnBoxOpenUptoCard : Claim7 := { stood := { row := fnBoxOpenUptoRow, standIns := [], harness := (true, "d11b628968fcd0f23ce3ca673b14a31fa07e0e758f9080b7156719460eb0c55c"), looks := true }, kinds := [], alts := [], laidByText := true, laidKinds := [.widerDeep, .sentinel, .sentinel, .sentinel], laidTests := true, laidLooks := .later }
def FnBoxOpenUptoCardSaid : Prop := Claim7.holds Tryd.pinned (.plain (OpenSpec.upto fnBoxOpenSpec)) fnBoxOpenUptoCard
end Rows
end Go.Proofs.YtbkobeclkeojoaaDoor
