/-
  DERIVED. GIVEN WITH THE SEED: THE CARDS: each row of YtnloecdkogckiaaDoorRows.lean that lists a variable, with what it lists TIED to the program's text (the seventh form; the later family's looks); each row that meets fmt, with fmt's text TOLD by the authors' own Lean function (tested against real Go, not proved from fmt's source: count such statements apart). THE CARD IS WHAT COUNTS. Prove the row's statement (the work); the ties are given (YtnloecdkogckiaaDoorTie.lean); close each card by the builder's one call (the guide's Derived/Test/ToyasCard.lean, 'card_holds'). Laid BY PROGRAM, IN A SANDBOX (cutbox-door.mjs). By AI agents, Wed Nov 11 2026. No macro, syntax, notation, axiom, sorry.
-/
import Derived.Test.YtnloecdkogckiaaDoorRows
import GoSem.ClaimSeven
namespace Go.Proofs.YtnloecdkogckiaaDoor
namespace Rows

/-- THE TIED CARD OF 'laws.FnPair'. -/
def fnPairCard : Claim7 := { stood := { row := fnPairRow, standIns := [], harness := (true, "c9e7ec732d0df95650b7a984983e53a06c58997cbcfa96f835527b1138e4478f"), looks := true }, kinds := [], alts := [], laidByText := true, laidKinds := [.widerDeep, .sentinel, .sentinel, .sentinel], laidTests := true, laidLooks := .later }
def FnPairCardSaid : Prop := Claim7.holds Tryd.pinned (.plain (OpenSpec.ofChange fnPairSpec)) fnPairCard

/-- THE TIED CARD OF 'laws.FnPrecompute'. -/
def fnPrecomputeCard : Claim7 := { stood := { row := fnPrecomputeRow, standIns := [], harness := (true, "c9e7ec732d0df95650b7a984983e53a06c58997cbcfa96f835527b1138e4478f"), looks := true }, kinds := [], alts := [], laidByText := true, laidKinds := [.widerDeep], laidTests := true, laidLooks := .later }
def FnPrecomputeCardSaid : Prop := Claim7.holds Tryd.pinned (.plain (OpenSpec.ofChange fnPrecomputeSpec)) fnPrecomputeCard

/-- THE TIED CARD OF 'laws.FnPrecomputeBoth'. -/
def fnPrecomputeBothCard : Claim7 := { stood := { row := fnPrecomputeBothRow, standIns := [], harness := (true, "c9e7ec732d0df95650b7a984983e53a06c58997cbcfa96f835527b1138e4478f"), looks := true }, kinds := [], alts := [], laidByText := true, laidKinds := [.widerDeep, .sentinel, .sentinel, .sentinel], laidTests := true, laidLooks := .later }
def FnPrecomputeBothCardSaid : Prop := Claim7.holds Tryd.pinned (.plain (OpenSpec.ofChange fnPrecomputeBothSpec)) fnPrecomputeBothCard

/-- THE SECOND FORM's CARD OF 'laws.FnPair'. -/
def fnPairUptoCard : Claim7 := { stood := { row := fnPairUptoRow, standIns := [], harness := (true, "c9e7ec732d0df95650b7a984983e53a06c58997cbcfa96f835527b1138e4478f"), looks := true }, kinds := [], alts := [], laidByText := true, laidKinds := [.widerDeep, .sentinel, .sentinel, .sentinel], laidTests := true, laidLooks := .later }
def FnPairUptoCardSaid : Prop := Claim7.holds Tryd.pinned (.plain (OpenSpec.upto fnPairSpec)) fnPairUptoCard

/-- THE SECOND FORM's CARD OF 'laws.FnPrecompute'. -/
def fnPrecomputeUptoCard : Claim7 := { stood := { row := fnPrecomputeUptoRow, standIns := [], harness := (true, "c9e7ec732d0df95650b7a984983e53a06c58997cbcfa96f835527b1138e4478f"), looks := true }, kinds := [], alts := [], laidByText := true, laidKinds := [.widerDeep], laidTests := true, laidLooks := .later }
def FnPrecomputeUptoCardSaid : Prop := Claim7.holds Tryd.pinned (.plain (OpenSpec.upto fnPrecomputeSpec)) fnPrecomputeUptoCard

/-- THE SECOND FORM's CARD OF 'laws.FnPrecomputeBoth'. -/
def fnPrecomputeBothUptoCard : Claim7 := { stood := { row := fnPrecomputeBothUptoRow, standIns := [], harness := (true, "c9e7ec732d0df95650b7a984983e53a06c58997cbcfa96f835527b1138e4478f"), looks := true }, kinds := [], alts := [], laidByText := true, laidKinds := [.widerDeep, .sentinel, .sentinel, .sentinel], laidTests := true, laidLooks := .later }
def FnPrecomputeBothUptoCardSaid : Prop := Claim7.holds Tryd.pinned (.plain (OpenSpec.upto fnPrecomputeBothSpec)) fnPrecomputeBothUptoCard
end Rows
end Go.Proofs.YtnloecdkogckiaaDoor
