/-
  No cell of these rows narrows 'for every input' (looked for: loops, veiled, ifaces, maps, wideKeys, modest, calm, conditions, laid).
  DERIVED. THE GIVEN ROWS OF THIS SEAT. 5 by the template 'for every input the law returns true; each argument reads behind the call as it read before'; 0 by the template 'total and deterministic' (their statements: YtdigakgfngfnkaaTotals.lean).
  GIVEN WITH THE SEED: the statements are not yours to turn. If you find one false, say at which input.
  Laid BY PROGRAM, IN A SANDBOX (cutbox-rows.mjs): the forced cells as the released guide's own fill.sh prints them over the translation 138bd74ae3058b5b… (all of the seat's roots in one cut). By AI agents, Wed Nov 11 2026. No macro, syntax, notation, axiom, sorry.
-/
import Derived.Test.YtdigakgfngfnkaaChecked
import GoSem.Claim
import GoSem.ClaimJoined
import GoSem.ClaimMapViews
import Derived.JoinedTies
import Derived.KernelRfl
namespace Go.Proofs.Ytdigakgfngfnkaa
/- THE CELL 'sum', in the pinned program and in every row, IS THE sha256 OF THE DUMP (.gsa) THAT YtdigakgfngfnkaaProg.lean LOADS. Nothing in Lean hashes anything: it is a label: what it is worth is what the hold of that sum in a sandbox is worth. -/
noncomputable def Try.pinned : Pinned := { name := "ytdigakgfngfnkaa", sum := "138bd74ae3058b5bcbe7017e4632bf0aabc90cdad0fb02ff481c053245e7260d", checked := Try.checked }
namespace Rows
def none {H : Type} : Left H := { results := [], args := [] }

/-- 'laws.FnSeal': WHATEVER THE INPUT: true; the input reads as it did. -/
def fnSealSpec : ChangeSpec := { name := "fnSeal", fn := fun _ => fun
  | [d1, d2, d3, d4] => { results := [.lit (.bool true)], args := [d1, d2, d3, d4] }
  | _ => none }
def fnSealRow : OpenClaim := { program := "ytdigakgfngfnkaa", sum := "138bd74ae3058b5bcbe7017e4632bf0aabc90cdad0fb02ff481c053245e7260d", func := "loop.example/pub-g03045/laws.FnSeal", spec := "fnSeal", inPlace := ["math/bits.Add64", "math/bits.Sub64"], named := ["encoding/binary.LittleEndian"], apart := false }
def FnSealSaid : Prop := fnSealRow.holds Try.pinned (OpenSpec.ofChange fnSealSpec)

/-- ITS FALSE NEIGHBOUR: 'it returns false'. Refute it at one input. -/
def fnSealWrong : ChangeSpec := { name := "fnSeal", fn := fun _ => fun
  | [d1, d2, d3, d4] => { results := [.lit (.bool false)], args := [d1, d2, d3, d4] }
  | _ => none }
def FnSealWrongFalsely : Prop := fnSealRow.holds Try.pinned (OpenSpec.ofChange fnSealWrong)

/-- 'laws.FnOpenIs': WHATEVER THE INPUT: true; the input reads as it did. -/
def fnOpenIsSpec : ChangeSpec := { name := "fnOpenIs", fn := fun _ => fun
  | [d1, d2, d3] => { results := [.lit (.bool true)], args := [d1, d2, d3] }
  | _ => none }
def fnOpenIsRow : OpenClaim := { program := "ytdigakgfngfnkaa", sum := "138bd74ae3058b5bcbe7017e4632bf0aabc90cdad0fb02ff481c053245e7260d", func := "loop.example/pub-g03045/laws.FnOpenIs", spec := "fnOpenIs", inPlace := ["math/bits.Add64", "math/bits.Sub64", "crypto/internal/constanttime.boolToUint8"], named := ["encoding/binary.LittleEndian"], apart := false }
def FnOpenIsSaid : Prop := fnOpenIsRow.holds Try.pinned (OpenSpec.ofChange fnOpenIsSpec)

/-- ITS FALSE NEIGHBOUR: 'it returns false'. Refute it at one input. -/
def fnOpenIsWrong : ChangeSpec := { name := "fnOpenIs", fn := fun _ => fun
  | [d1, d2, d3] => { results := [.lit (.bool false)], args := [d1, d2, d3] }
  | _ => none }
def FnOpenIsWrongFalsely : Prop := fnOpenIsRow.holds Try.pinned (OpenSpec.ofChange fnOpenIsWrong)

/-- 'laws.FnOpenTurned': WHATEVER THE INPUT: true; the input reads as it did. -/
def fnOpenTurnedSpec : ChangeSpec := { name := "fnOpenTurned", fn := fun _ => fun
  | [d1, d2, d3, d4] => { results := [.lit (.bool true)], args := [d1, d2, d3, d4] }
  | _ => none }
def fnOpenTurnedRow : OpenClaim := { program := "ytdigakgfngfnkaa", sum := "138bd74ae3058b5bcbe7017e4632bf0aabc90cdad0fb02ff481c053245e7260d", func := "loop.example/pub-g03045/laws.FnOpenTurned", spec := "fnOpenTurned", inPlace := ["math/bits.Add64", "math/bits.Sub64", "crypto/internal/constanttime.boolToUint8"], named := ["encoding/binary.LittleEndian"], apart := false }
def FnOpenTurnedSaid : Prop := fnOpenTurnedRow.holds Try.pinned (OpenSpec.ofChange fnOpenTurnedSpec)

/-- ITS FALSE NEIGHBOUR: 'it returns false'. Refute it at one input. -/
def fnOpenTurnedWrong : ChangeSpec := { name := "fnOpenTurned", fn := fun _ => fun
  | [d1, d2, d3, d4] => { results := [.lit (.bool false)], args := [d1, d2, d3, d4] }
  | _ => none }
def FnOpenTurnedWrongFalsely : Prop := fnOpenTurnedRow.holds Try.pinned (OpenSpec.ofChange fnOpenTurnedWrong)

/-- 'laws.FnOpenSeal': WHATEVER THE INPUT: true; the input reads as it did. -/
def fnOpenSealSpec : ChangeSpec := { name := "fnOpenSeal", fn := fun _ => fun
  | [d1, d2, d3, d4] => { results := [.lit (.bool true)], args := [d1, d2, d3, d4] }
  | _ => none }
def fnOpenSealRow : OpenClaim := { program := "ytdigakgfngfnkaa", sum := "138bd74ae3058b5bcbe7017e4632bf0aabc90cdad0fb02ff481c053245e7260d", func := "loop.example/pub-g03045/laws.FnOpenSeal", spec := "fnOpenSeal", inPlace := ["math/bits.Add64", "math/bits.Sub64", "crypto/internal/constanttime.boolToUint8"], named := ["encoding/binary.LittleEndian"], apart := false }
def FnOpenSealSaid : Prop := fnOpenSealRow.holds Try.pinned (OpenSpec.ofChange fnOpenSealSpec)

/-- ITS FALSE NEIGHBOUR: 'it returns false'. Refute it at one input. -/
def fnOpenSealWrong : ChangeSpec := { name := "fnOpenSeal", fn := fun _ => fun
  | [d1, d2, d3, d4] => { results := [.lit (.bool false)], args := [d1, d2, d3, d4] }
  | _ => none }
def FnOpenSealWrongFalsely : Prop := fnOpenSealRow.holds Try.pinned (OpenSpec.ofChange fnOpenSealWrong)

/-- 'laws.FnAfter': WHATEVER THE INPUT: true; the input reads as it did. -/
def fnAfterSpec : ChangeSpec := { name := "fnAfter", fn := fun _ => fun
  | [d1, d2, d3, d4] => { results := [.lit (.bool true)], args := [d1, d2, d3, d4] }
  | _ => none }
def fnAfterRow : OpenClaim := { program := "ytdigakgfngfnkaa", sum := "138bd74ae3058b5bcbe7017e4632bf0aabc90cdad0fb02ff481c053245e7260d", func := "loop.example/pub-g03045/laws.FnAfter", spec := "fnAfter", inPlace := ["math/bits.Add64", "math/bits.Sub64", "crypto/internal/constanttime.boolToUint8"], named := ["encoding/binary.LittleEndian"], apart := false }
def FnAfterSaid : Prop := fnAfterRow.holds Try.pinned (OpenSpec.ofChange fnAfterSpec)

/-- ITS FALSE NEIGHBOUR: 'it returns false'. Refute it at one input. -/
def fnAfterWrong : ChangeSpec := { name := "fnAfter", fn := fun _ => fun
  | [d1, d2, d3, d4] => { results := [.lit (.bool false)], args := [d1, d2, d3, d4] }
  | _ => none }
def FnAfterWrongFalsely : Prop := fnAfterRow.holds Try.pinned (OpenSpec.ofChange fnAfterWrong)

/- THE SECOND FORM. 'bulk': how many values and letters a reading holds, each counted each time it is reached (what is shared counts as often as it is met; a slice's spare places count too). A statement '..UptoSaid' is the law's where the arguments, and the package variables that the reading takes, are together of bulk at most 1048576: NARROWER than '..Said'. Prove '..Said' where nothing that the law and all that it calls make is longer than what came in: it says more and counts as full. Else prove '..UptoSaid'. A law counts once. -/
mutual
def uptoBulk {H : Type} : DataW H → Nat
  | .lit (.string bytes) => bytes.length + 1
  | .lit _ => 1
  | .nil => 1
  | .ptr d => uptoBulk d + 1
  | .slice elems spare => uptoBulkAll elems + uptoBulkAll spare + 1
  | .agg parts => uptoBulkAll parts + 1
  | .iface _ d => uptoBulk d + 1
  | .map entries => uptoBulkEntries entries + 1
  | .held _ => 1
def uptoBulkAll {H : Type} : List (DataW H) → Nat
  | [] => 0
  | d :: r => uptoBulk d + uptoBulkAll r
def uptoBulkEntries {H : Type} : List (Lit × DataW H) → Nat
  | [] => 0
  | x :: r => uptoBulkEntry x + uptoBulkEntries r
def uptoBulkEntry {H : Type} : Lit × DataW H → Nat
  | (.string bytes, d) => bytes.length + uptoBulk d + 1
  | (_, d) => uptoBulk d + 1
 end
def uptoSmall : (H : Type) → List (DataW H) → Bool := fun _ ds => decide (uptoBulkAll ds ≤ 1048576)
def OpenSpec.upto (s : _root_.Go.ChangeSpec) : _root_.Go.OpenSpec := { _root_.Go.OpenSpec.ofChange s with cond := some uptoSmall }

/-- 'laws.FnSeal', WHERE WHAT IT READS IS OF BULK AT MOST 1048576: true; the input reads as it did. -/
def fnSealUptoRow : OpenClaim := { program := "ytdigakgfngfnkaa", sum := "138bd74ae3058b5bcbe7017e4632bf0aabc90cdad0fb02ff481c053245e7260d", func := "loop.example/pub-g03045/laws.FnSeal", spec := "fnSeal", inPlace := ["math/bits.Add64", "math/bits.Sub64"], named := ["encoding/binary.LittleEndian"], apart := false, narrowed := true }
def FnSealUptoSaid : Prop := fnSealUptoRow.holds Try.pinned (OpenSpec.upto fnSealSpec)

/-- 'laws.FnOpenIs', WHERE WHAT IT READS IS OF BULK AT MOST 1048576: true; the input reads as it did. -/
def fnOpenIsUptoRow : OpenClaim := { program := "ytdigakgfngfnkaa", sum := "138bd74ae3058b5bcbe7017e4632bf0aabc90cdad0fb02ff481c053245e7260d", func := "loop.example/pub-g03045/laws.FnOpenIs", spec := "fnOpenIs", inPlace := ["math/bits.Add64", "math/bits.Sub64", "crypto/internal/constanttime.boolToUint8"], named := ["encoding/binary.LittleEndian"], apart := false, narrowed := true }
def FnOpenIsUptoSaid : Prop := fnOpenIsUptoRow.holds Try.pinned (OpenSpec.upto fnOpenIsSpec)

/-- 'laws.FnOpenTurned', WHERE WHAT IT READS IS OF BULK AT MOST 1048576: true; the input reads as it did. -/
def fnOpenTurnedUptoRow : OpenClaim := { program := "ytdigakgfngfnkaa", sum := "138bd74ae3058b5bcbe7017e4632bf0aabc90cdad0fb02ff481c053245e7260d", func := "loop.example/pub-g03045/laws.FnOpenTurned", spec := "fnOpenTurned", inPlace := ["math/bits.Add64", "math/bits.Sub64", "crypto/internal/constanttime.boolToUint8"], named := ["encoding/binary.LittleEndian"], apart := false, narrowed := true }
def FnOpenTurnedUptoSaid : Prop := fnOpenTurnedUptoRow.holds Try.pinned (OpenSpec.upto fnOpenTurnedSpec)

/-- 'laws.FnOpenSeal', WHERE WHAT IT READS IS OF BULK AT MOST 1048576: true; the input reads as it did. -/
def fnOpenSealUptoRow : OpenClaim := { program := "ytdigakgfngfnkaa", sum := "138bd74ae3058b5bcbe7017e4632bf0aabc90cdad0fb02ff481c053245e7260d", func := "loop.example/pub-g03045/laws.FnOpenSeal", spec := "fnOpenSeal", inPlace := ["math/bits.Add64", "math/bits.Sub64", "crypto/internal/constanttime.boolToUint8"], named := ["encoding/binary.LittleEndian"], apart := false, narrowed := true }
def FnOpenSealUptoSaid : Prop := fnOpenSealUptoRow.holds Try.pinned (OpenSpec.upto fnOpenSealSpec)

/-- 'laws.FnAfter', WHERE WHAT IT READS IS OF BULK AT MOST 1048576: true; the input reads as it did. -/
def fnAfterUptoRow : OpenClaim := { program := "ytdigakgfngfnkaa", sum := "138bd74ae3058b5bcbe7017e4632bf0aabc90cdad0fb02ff481c053245e7260d", func := "loop.example/pub-g03045/laws.FnAfter", spec := "fnAfter", inPlace := ["math/bits.Add64", "math/bits.Sub64", "crypto/internal/constanttime.boolToUint8"], named := ["encoding/binary.LittleEndian"], apart := false, narrowed := true }
def FnAfterUptoSaid : Prop := fnAfterUptoRow.holds Try.pinned (OpenSpec.upto fnAfterSpec)

end Rows
end Go.Proofs.Ytdigakgfngfnkaa
