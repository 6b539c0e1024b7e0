/-
  No cell of these rows narrows 'for every input' (looked for: loops, veiled, ifaces, maps, wideKeys, modest, calm, conditions, laid).
  DERIVED. THE GIVEN ROWS OF THIS SEAT. 3 by the template 'for every input the law returns true; each argument reads behind the call as it read before'; 0 by the template 'total and deterministic' (their statements: YtnloecdkogckiaaTotals.lean).
  GIVEN WITH THE SEED: the statements are not yours to turn. If you find one false, say at which input.
  Laid BY PROGRAM, IN A SANDBOX (cutbox-rows.mjs): the forced cells as the released guide's own fill.sh prints them over the translation e0b868d43df91307… (all of the seat's roots in one cut). By AI agents, Wed Nov 11 2026. No macro, syntax, notation, axiom, sorry.
-/
import Derived.Test.YtnloecdkogckiaaChecked
import GoSem.Claim
import GoSem.ClaimJoined
import GoSem.ClaimMapViews
import Derived.JoinedTies
import Derived.KernelRfl
namespace Go.Proofs.Ytnloecdkogckiaa
/- THE CELL 'sum', in the pinned program and in every row, IS THE sha256 OF THE DUMP (.gsa) THAT YtnloecdkogckiaaProg.lean LOADS. Nothing in Lean hashes anything: it is a label: what it is worth is what the hold of that sum in a sandbox is worth. -/
noncomputable def Try.pinned : Pinned := { name := "ytnloecdkogckiaa", sum := "e0b868d43df9130705206fda3031025e942ffaa8cad1dbcec0e198ed75fb8769", checked := Try.checked }
namespace Rows
def none {H : Type} : Left H := { results := [], args := [] }

/-- 'laws.FnHSalsa': WHATEVER THE INPUT: true; the input reads as it did. -/
def fnHSalsaSpec : ChangeSpec := { name := "fnHSalsa", fn := fun _ => fun
  | [d1, d2, d3] => { results := [.lit (.bool true)], args := [d1, d2, d3] }
  | _ => none }
def fnHSalsaRow : OpenClaim := { program := "ytnloecdkogckiaa", sum := "e0b868d43df9130705206fda3031025e942ffaa8cad1dbcec0e198ed75fb8769", func := "loop.example/pub-g03045/laws.FnHSalsa", spec := "fnHSalsa", apart := false }
def FnHSalsaSaid : Prop := fnHSalsaRow.holds Try.pinned (OpenSpec.ofChange fnHSalsaSpec)

/-- ITS FALSE NEIGHBOUR: 'it returns false'. Refute it at one input. -/
def fnHSalsaWrong : ChangeSpec := { name := "fnHSalsa", fn := fun _ => fun
  | [d1, d2, d3] => { results := [.lit (.bool false)], args := [d1, d2, d3] }
  | _ => none }
def FnHSalsaWrongFalsely : Prop := fnHSalsaRow.holds Try.pinned (OpenSpec.ofChange fnHSalsaWrong)

/-- 'laws.FnPolyTurned': WHATEVER THE INPUT: true; the input reads as it did. -/
def fnPolyTurnedSpec : ChangeSpec := { name := "fnPolyTurned", fn := fun _ => fun
  | [d1, d2, d3] => { results := [.lit (.bool true)], args := [d1, d2, d3] }
  | _ => none }
def fnPolyTurnedRow : OpenClaim := { program := "ytnloecdkogckiaa", sum := "e0b868d43df9130705206fda3031025e942ffaa8cad1dbcec0e198ed75fb8769", func := "loop.example/pub-g03045/laws.FnPolyTurned", spec := "fnPolyTurned", inPlace := ["math/bits.Add64", "math/bits.Sub64", "crypto/internal/constanttime.boolToUint8"], named := ["encoding/binary.LittleEndian"], apart := false }
def FnPolyTurnedSaid : Prop := fnPolyTurnedRow.holds Try.pinned (OpenSpec.ofChange fnPolyTurnedSpec)

/-- ITS FALSE NEIGHBOUR: 'it returns false'. Refute it at one input. -/
def fnPolyTurnedWrong : ChangeSpec := { name := "fnPolyTurned", fn := fun _ => fun
  | [d1, d2, d3] => { results := [.lit (.bool false)], args := [d1, d2, d3] }
  | _ => none }
def FnPolyTurnedWrongFalsely : Prop := fnPolyTurnedRow.holds Try.pinned (OpenSpec.ofChange fnPolyTurnedWrong)

/-- 'laws.FnPoly': WHATEVER THE INPUT: true; the input reads as it did. -/
def fnPolySpec : ChangeSpec := { name := "fnPoly", fn := fun _ => fun
  | [d1, d2, d3] => { results := [.lit (.bool true)], args := [d1, d2, d3] }
  | _ => none }
def fnPolyRow : OpenClaim := { program := "ytnloecdkogckiaa", sum := "e0b868d43df9130705206fda3031025e942ffaa8cad1dbcec0e198ed75fb8769", func := "loop.example/pub-g03045/laws.FnPoly", spec := "fnPoly", inPlace := ["math/bits.Add64", "math/bits.Sub64", "crypto/internal/constanttime.boolToUint8"], named := ["encoding/binary.LittleEndian"], apart := false }
def FnPolySaid : Prop := fnPolyRow.holds Try.pinned (OpenSpec.ofChange fnPolySpec)

/-- ITS FALSE NEIGHBOUR: 'it returns false'. Refute it at one input. -/
def fnPolyWrong : ChangeSpec := { name := "fnPoly", fn := fun _ => fun
  | [d1, d2, d3] => { results := [.lit (.bool false)], args := [d1, d2, d3] }
  | _ => none }
def FnPolyWrongFalsely : Prop := fnPolyRow.holds Try.pinned (OpenSpec.ofChange fnPolyWrong)

/- THE SECOND FORM. 'bulk': how many values and letters a reading holds, each counted each time it is reached (what is shared counts as often as it is met; a slice's spare places count too). A statement '..UptoSaid' is the law's where the arguments, and the package variables that the reading takes, are together of bulk at most 1048576: NARROWER than '..Said'. Prove '..Said' where nothing that the law and all that it calls make is longer than what came in: it says more and counts as full. Else prove '..UptoSaid'. A law counts once. -/
mutual
def uptoBulk {H : Type} : DataW H → Nat
  | .lit (.string bytes) => bytes.length + 1
  | .lit _ => 1
  | .nil => 1
  | .ptr d => uptoBulk d + 1
  | .slice elems spare => uptoBulkAll elems + uptoBulkAll spare + 1
  | .agg parts => uptoBulkAll parts + 1
  | .iface _ d => uptoBulk d + 1
  | .map entries => uptoBulkEntries entries + 1
  | .held _ => 1
def uptoBulkAll {H : Type} : List (DataW H) → Nat
  | [] => 0
  | d :: r => uptoBulk d + uptoBulkAll r
def uptoBulkEntries {H : Type} : List (Lit × DataW H) → Nat
  | [] => 0
  | x :: r => uptoBulkEntry x + uptoBulkEntries r
def uptoBulkEntry {H : Type} : Lit × DataW H → Nat
  | (.string bytes, d) => bytes.length + uptoBulk d + 1
  | (_, d) => uptoBulk d + 1
 end
def uptoSmall : (H : Type) → List (DataW H) → Bool := fun _ ds => decide (uptoBulkAll ds ≤ 1048576)
def OpenSpec.upto (s : _root_.Go.ChangeSpec) : _root_.Go.OpenSpec := { _root_.Go.OpenSpec.ofChange s with cond := some uptoSmall }

/-- 'laws.FnHSalsa', WHERE WHAT IT READS IS OF BULK AT MOST 1048576: true; the input reads as it did. -/
def fnHSalsaUptoRow : OpenClaim := { program := "ytnloecdkogckiaa", sum := "e0b868d43df9130705206fda3031025e942ffaa8cad1dbcec0e198ed75fb8769", func := "loop.example/pub-g03045/laws.FnHSalsa", spec := "fnHSalsa", apart := false, narrowed := true }
def FnHSalsaUptoSaid : Prop := fnHSalsaUptoRow.holds Try.pinned (OpenSpec.upto fnHSalsaSpec)

/-- 'laws.FnPolyTurned', WHERE WHAT IT READS IS OF BULK AT MOST 1048576: true; the input reads as it did. -/
def fnPolyTurnedUptoRow : OpenClaim := { program := "ytnloecdkogckiaa", sum := "e0b868d43df9130705206fda3031025e942ffaa8cad1dbcec0e198ed75fb8769", func := "loop.example/pub-g03045/laws.FnPolyTurned", spec := "fnPolyTurned", inPlace := ["math/bits.Add64", "math/bits.Sub64", "crypto/internal/constanttime.boolToUint8"], named := ["encoding/binary.LittleEndian"], apart := false, narrowed := true }
def FnPolyTurnedUptoSaid : Prop := fnPolyTurnedUptoRow.holds Try.pinned (OpenSpec.upto fnPolyTurnedSpec)

/-- 'laws.FnPoly', WHERE WHAT IT READS IS OF BULK AT MOST 1048576: true; the input reads as it did. -/
def fnPolyUptoRow : OpenClaim := { program := "ytnloecdkogckiaa", sum := "e0b868d43df9130705206fda3031025e942ffaa8cad1dbcec0e198ed75fb8769", func := "loop.example/pub-g03045/laws.FnPoly", spec := "fnPoly", inPlace := ["math/bits.Add64", "math/bits.Sub64", "crypto/internal/constanttime.boolToUint8"], named := ["encoding/binary.LittleEndian"], apart := false, narrowed := true }
def FnPolyUptoSaid : Prop := fnPolyUptoRow.holds Try.pinned (OpenSpec.upto fnPolySpec)

end Rows
end Go.Proofs.Ytnloecdkogckiaa
