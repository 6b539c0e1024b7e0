/-
  NARROWER THAN 'FOR EVERY INPUT', by the rows' own cells (each row's printed sentence says how): FnPair: laid · FnPrecompute: laid · FnPrecomputeBoth: laid.
  DERIVED. THE GIVEN ROWS OF THIS SEAT. 3 by the template 'for every input the law returns true; each argument reads behind the call as it read before'; 0 by the template 'total and deterministic' (their statements: YtnloecdkogckiaaDoorTotals.lean).
  GIVEN WITH THE SEED: the statements are not yours to turn. If you find one false, say at which input.
  Laid BY PROGRAM, IN A SANDBOX (cutbox-rows.mjs): the forced cells as the released guide's own fill.sh prints them over the translation 0f3048a05227d6fc… (all of the seat's roots in one cut). By AI agents, Wed Nov 11 2026. No macro, syntax, notation, axiom, sorry.
-/
import Derived.Test.YtnloecdkogckiaaDoorChecked
import GoSem.Claim
import GoSem.ClaimJoined
import GoSem.ClaimMapViews
import Derived.JoinedTies
import Derived.KernelRfl
namespace Go.Proofs.YtnloecdkogckiaaDoor
/- THE CELL 'sum', in the pinned program and in every row, IS THE sha256 OF THE DUMP (.gsa) THAT YtnloecdkogckiaaDoorProg.lean LOADS. Nothing in Lean hashes anything: it is a label: what it is worth is what the hold of that sum in a sandbox is worth. -/
noncomputable def Tryd.pinned : Pinned := { name := "ytnloecdkogckiaadoor", sum := "0f3048a05227d6fc2c410c82341278b32100ab9ebc413949b8166b5dfb8e9621", checked := Tryd.checked }
namespace Rows
def none {H : Type} : Left H := { results := [], args := [] }

/- WHAT THE LISTED PACKAGE-LEVEL VARIABLES READ AS WHEN THE CALL BEGINS. Each datum BY PROGRAM (the guide's laid-datum.mjs) off the statement by which the dump's own 'gosem.cut.vars' lays the variable. In a bare row this is a premise. The card (YtnloecdkogckiaaDoorCards.lean) ties it to the program's text. -/
def laid_loop_example_pub_g03045_pub_field_feOne {H : Type} : DataW H := .ptr (.agg [.lit (.int .u64 1), .lit (.int .u64 0), .lit (.int .u64 0), .lit (.int .u64 0), .lit (.int .u64 0)])
def laid_io_ErrShortBuffer {H : Type} : DataW H := .iface "*errors.errorString" (.ptr (.agg [.lit (.string [115, 104, 111, 114, 116, 32, 98, 117, 102, 102, 101, 114])]))
def laid_io_EOF {H : Type} : DataW H := .iface "*errors.errorString" (.ptr (.agg [.lit (.string [69, 79, 70])]))
def laid_io_ErrUnexpectedEOF {H : Type} : DataW H := .iface "*errors.errorString" (.ptr (.agg [.lit (.string [117, 110, 101, 120, 112, 101, 99, 116, 101, 100, 32, 69, 79, 70])]))

/-- 'laws.FnPair': WHATEVER THE INPUT: true; the input reads as it did. -/
def fnPairSpec : ChangeSpec := { name := "fnPair", vars := ["loop.example/pub-g03045/pub/field.feOne"], fn := fun _ => fun
  | [d, g1] => { results := [.lit (.bool true)], args := [d], vars := [g1] }
  | _ => none }
def fnPairRow : OpenClaim := { program := "ytnloecdkogckiaadoor", sum := "0f3048a05227d6fc2c410c82341278b32100ab9ebc413949b8166b5dfb8e9621", func := "loop.example/pub-g03045/laws.FnPair", spec := "fnPair", inPlace := ["math/bits.Add64"], unfollowed := true, recurses := true, named := ["io.ErrShortBuffer", "io.EOF", "io.ErrUnexpectedEOF", "loop.example/pub-g03045/pub/field.feOne"], apart := false, laid := [("loop.example/pub-g03045/pub/field.feOne", laid_loop_example_pub_g03045_pub_field_feOne), ("io.ErrShortBuffer", laid_io_ErrShortBuffer), ("io.EOF", laid_io_EOF), ("io.ErrUnexpectedEOF", laid_io_ErrUnexpectedEOF)] }
def FnPairSaid : Prop := fnPairRow.holds Tryd.pinned (OpenSpec.ofChange fnPairSpec)

/-- ITS FALSE NEIGHBOUR: 'it returns false'. Refute it at one input. -/
def fnPairWrong : ChangeSpec := { name := "fnPair", vars := ["loop.example/pub-g03045/pub/field.feOne"], fn := fun _ => fun
  | [d, g1] => { results := [.lit (.bool false)], args := [d], vars := [g1] }
  | _ => none }
def FnPairWrongFalsely : Prop := fnPairRow.holds Tryd.pinned (OpenSpec.ofChange fnPairWrong)

/-- 'laws.FnPrecompute': WHATEVER THE INPUT: true; the input reads as it did. -/
def fnPrecomputeSpec : ChangeSpec := { name := "fnPrecompute", vars := ["loop.example/pub-g03045/pub/field.feOne"], fn := fun _ => fun
  | [d1, d2, g1] => { results := [.lit (.bool true)], args := [d1, d2], vars := [g1] }
  | _ => none }
def fnPrecomputeRow : OpenClaim := { program := "ytnloecdkogckiaadoor", sum := "0f3048a05227d6fc2c410c82341278b32100ab9ebc413949b8166b5dfb8e9621", func := "loop.example/pub-g03045/laws.FnPrecompute", spec := "fnPrecompute", inPlace := ["math/bits.Add64"], named := ["loop.example/pub-g03045/pub/field.feOne"], apart := false, laid := [("loop.example/pub-g03045/pub/field.feOne", laid_loop_example_pub_g03045_pub_field_feOne)] }
def FnPrecomputeSaid : Prop := fnPrecomputeRow.holds Tryd.pinned (OpenSpec.ofChange fnPrecomputeSpec)

/-- ITS FALSE NEIGHBOUR: 'it returns false'. Refute it at one input. -/
def fnPrecomputeWrong : ChangeSpec := { name := "fnPrecompute", vars := ["loop.example/pub-g03045/pub/field.feOne"], fn := fun _ => fun
  | [d1, d2, g1] => { results := [.lit (.bool false)], args := [d1, d2], vars := [g1] }
  | _ => none }
def FnPrecomputeWrongFalsely : Prop := fnPrecomputeRow.holds Tryd.pinned (OpenSpec.ofChange fnPrecomputeWrong)

/-- 'laws.FnPrecomputeBoth': WHATEVER THE INPUT: true; the input reads as it did. -/
def fnPrecomputeBothSpec : ChangeSpec := { name := "fnPrecomputeBoth", vars := ["loop.example/pub-g03045/pub/field.feOne"], fn := fun _ => fun
  | [d1, d2, g1] => { results := [.lit (.bool true)], args := [d1, d2], vars := [g1] }
  | _ => none }
def fnPrecomputeBothRow : OpenClaim := { program := "ytnloecdkogckiaadoor", sum := "0f3048a05227d6fc2c410c82341278b32100ab9ebc413949b8166b5dfb8e9621", func := "loop.example/pub-g03045/laws.FnPrecomputeBoth", spec := "fnPrecomputeBoth", inPlace := ["math/bits.Add64"], unfollowed := true, recurses := true, named := ["io.ErrShortBuffer", "io.EOF", "io.ErrUnexpectedEOF", "loop.example/pub-g03045/pub/field.feOne"], apart := false, laid := [("loop.example/pub-g03045/pub/field.feOne", laid_loop_example_pub_g03045_pub_field_feOne), ("io.ErrShortBuffer", laid_io_ErrShortBuffer), ("io.EOF", laid_io_EOF), ("io.ErrUnexpectedEOF", laid_io_ErrUnexpectedEOF)] }
def FnPrecomputeBothSaid : Prop := fnPrecomputeBothRow.holds Tryd.pinned (OpenSpec.ofChange fnPrecomputeBothSpec)

/-- ITS FALSE NEIGHBOUR: 'it returns false'. Refute it at one input. -/
def fnPrecomputeBothWrong : ChangeSpec := { name := "fnPrecomputeBoth", vars := ["loop.example/pub-g03045/pub/field.feOne"], fn := fun _ => fun
  | [d1, d2, g1] => { results := [.lit (.bool false)], args := [d1, d2], vars := [g1] }
  | _ => none }
def FnPrecomputeBothWrongFalsely : Prop := fnPrecomputeBothRow.holds Tryd.pinned (OpenSpec.ofChange fnPrecomputeBothWrong)

/- THE SECOND FORM. 'bulk': how many values and letters a reading holds, each counted each time it is reached (what is shared counts as often as it is met; a slice's spare places count too). A statement '..UptoSaid' is the law's where the arguments, and the package variables that the reading takes, are together of bulk at most 1048576: NARROWER than '..Said'. Prove '..Said' where nothing that the law and all that it calls make is longer than what came in: it says more and counts as full. Else prove '..UptoSaid'. A law counts once. -/
mutual
def uptoBulk {H : Type} : DataW H → Nat
  | .lit (.string bytes) => bytes.length + 1
  | .lit _ => 1
  | .nil => 1
  | .ptr d => uptoBulk d + 1
  | .slice elems spare => uptoBulkAll elems + uptoBulkAll spare + 1
  | .agg parts => uptoBulkAll parts + 1
  | .iface _ d => uptoBulk d + 1
  | .map entries => uptoBulkEntries entries + 1
  | .held _ => 1
def uptoBulkAll {H : Type} : List (DataW H) → Nat
  | [] => 0
  | d :: r => uptoBulk d + uptoBulkAll r
def uptoBulkEntries {H : Type} : List (Lit × DataW H) → Nat
  | [] => 0
  | x :: r => uptoBulkEntry x + uptoBulkEntries r
def uptoBulkEntry {H : Type} : Lit × DataW H → Nat
  | (.string bytes, d) => bytes.length + uptoBulk d + 1
  | (_, d) => uptoBulk d + 1
 end
def uptoSmall : (H : Type) → List (DataW H) → Bool := fun _ ds => decide (uptoBulkAll ds ≤ 1048576)
def OpenSpec.upto (s : _root_.Go.ChangeSpec) : _root_.Go.OpenSpec := { _root_.Go.OpenSpec.ofChange s with cond := some uptoSmall }

/-- 'laws.FnPair', WHERE WHAT IT READS IS OF BULK AT MOST 1048576: true; the input reads as it did. -/
def fnPairUptoRow : OpenClaim := { program := "ytnloecdkogckiaadoor", sum := "0f3048a05227d6fc2c410c82341278b32100ab9ebc413949b8166b5dfb8e9621", func := "loop.example/pub-g03045/laws.FnPair", spec := "fnPair", inPlace := ["math/bits.Add64"], unfollowed := true, recurses := true, named := ["io.ErrShortBuffer", "io.EOF", "io.ErrUnexpectedEOF", "loop.example/pub-g03045/pub/field.feOne"], apart := false, laid := [("loop.example/pub-g03045/pub/field.feOne", laid_loop_example_pub_g03045_pub_field_feOne), ("io.ErrShortBuffer", laid_io_ErrShortBuffer), ("io.EOF", laid_io_EOF), ("io.ErrUnexpectedEOF", laid_io_ErrUnexpectedEOF)], narrowed := true }
def FnPairUptoSaid : Prop := fnPairUptoRow.holds Tryd.pinned (OpenSpec.upto fnPairSpec)

/-- 'laws.FnPrecompute', WHERE WHAT IT READS IS OF BULK AT MOST 1048576: true; the input reads as it did. -/
def fnPrecomputeUptoRow : OpenClaim := { program := "ytnloecdkogckiaadoor", sum := "0f3048a05227d6fc2c410c82341278b32100ab9ebc413949b8166b5dfb8e9621", func := "loop.example/pub-g03045/laws.FnPrecompute", spec := "fnPrecompute", inPlace := ["math/bits.Add64"], named := ["loop.example/pub-g03045/pub/field.feOne"], apart := false, laid := [("loop.example/pub-g03045/pub/field.feOne", laid_loop_example_pub_g03045_pub_field_feOne)], narrowed := true }
def FnPrecomputeUptoSaid : Prop := fnPrecomputeUptoRow.holds Tryd.pinned (OpenSpec.upto fnPrecomputeSpec)

/-- 'laws.FnPrecomputeBoth', WHERE WHAT IT READS IS OF BULK AT MOST 1048576: true; the input reads as it did. -/
def fnPrecomputeBothUptoRow : OpenClaim := { program := "ytnloecdkogckiaadoor", sum := "0f3048a05227d6fc2c410c82341278b32100ab9ebc413949b8166b5dfb8e9621", func := "loop.example/pub-g03045/laws.FnPrecomputeBoth", spec := "fnPrecomputeBoth", inPlace := ["math/bits.Add64"], unfollowed := true, recurses := true, named := ["io.ErrShortBuffer", "io.EOF", "io.ErrUnexpectedEOF", "loop.example/pub-g03045/pub/field.feOne"], apart := false, laid := [("loop.example/pub-g03045/pub/field.feOne", laid_loop_example_pub_g03045_pub_field_feOne), ("io.ErrShortBuffer", laid_io_ErrShortBuffer), ("io.EOF", laid_io_EOF), ("io.ErrUnexpectedEOF", laid_io_ErrUnexpectedEOF)], narrowed := true }
def FnPrecomputeBothUptoSaid : Prop := fnPrecomputeBothUptoRow.holds Tryd.pinned (OpenSpec.upto fnPrecomputeBothSpec)

end Rows
end Go.Proofs.YtnloecdkogckiaaDoor
