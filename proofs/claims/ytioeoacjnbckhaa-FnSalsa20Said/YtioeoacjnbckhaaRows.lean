/-
  No cell of these rows narrows 'for every input' (looked for: loops, veiled, ifaces, maps, wideKeys, modest, calm, conditions, laid).
  DERIVED. THE GIVEN ROWS OF THIS SEAT. 14 by the template 'for every input the law returns true; each argument reads behind the call as it read before'; 0 by the template 'total and deterministic' (their statements: YtioeoacjnbckhaaTotals.lean).
  GIVEN WITH THE SEED: the statements are not yours to turn. If you find one false, say at which input.
  Laid BY PROGRAM, IN A SANDBOX (cutbox-rows.mjs): the forced cells as the released guide's own fill.sh prints them over the translation 620fe1cfb0c43c25… (all of the seat's roots in one cut). By AI agents, Wed Nov 11 2026. No macro, syntax, notation, axiom, sorry.
-/
import Derived.Test.YtioeoacjnbckhaaChecked
import GoSem.Claim
import GoSem.ClaimJoined
import GoSem.ClaimMapViews
import Derived.JoinedTies
import Derived.KernelRfl
namespace Go.Proofs.Ytioeoacjnbckhaa
/- THE CELL 'sum', in the pinned program and in every row, IS THE sha256 OF THE DUMP (.gsa) THAT YtioeoacjnbckhaaProg.lean LOADS. Nothing in Lean hashes anything: it is a label: what it is worth is what the hold of that sum in a sandbox is worth. -/
noncomputable def Try.pinned : Pinned := { name := "ytioeoacjnbckhaa", sum := "620fe1cfb0c43c2519fdb4d18ec17385064ce67c3cefa723e7c609075f559b36", checked := Try.checked }
namespace Rows
def none {H : Type} : Left H := { results := [], args := [] }

/-- 'laws.FnHSalsa': WHATEVER THE INPUT: true; the input reads as it did. -/
def fnHSalsaSpec : ChangeSpec := { name := "fnHSalsa", fn := fun _ => fun
  | [d1, d2, d3] => { results := [.lit (.bool true)], args := [d1, d2, d3] }
  | _ => none }
def fnHSalsaRow : OpenClaim := { program := "ytioeoacjnbckhaa", sum := "620fe1cfb0c43c2519fdb4d18ec17385064ce67c3cefa723e7c609075f559b36", func := "loop.example/pub-g03045/laws.FnHSalsa", spec := "fnHSalsa", apart := false }
def FnHSalsaSaid : Prop := fnHSalsaRow.holds Try.pinned (OpenSpec.ofChange fnHSalsaSpec)

/-- ITS FALSE NEIGHBOUR: 'it returns false'. Refute it at one input. -/
def fnHSalsaWrong : ChangeSpec := { name := "fnHSalsa", fn := fun _ => fun
  | [d1, d2, d3] => { results := [.lit (.bool false)], args := [d1, d2, d3] }
  | _ => none }
def FnHSalsaWrongFalsely : Prop := fnHSalsaRow.holds Try.pinned (OpenSpec.ofChange fnHSalsaWrong)

/-- 'laws.FnCore208': WHATEVER THE INPUT: true; the input reads as it did. -/
def fnCore208Spec : ChangeSpec := { name := "fnCore208", fn := fun _ => fun
  | [d] => { results := [.lit (.bool true)], args := [d] }
  | _ => none }
def fnCore208Row : OpenClaim := { program := "ytioeoacjnbckhaa", sum := "620fe1cfb0c43c2519fdb4d18ec17385064ce67c3cefa723e7c609075f559b36", func := "loop.example/pub-g03045/laws.FnCore208", spec := "fnCore208", apart := false }
def FnCore208Said : Prop := fnCore208Row.holds Try.pinned (OpenSpec.ofChange fnCore208Spec)

/-- ITS FALSE NEIGHBOUR: 'it returns false'. Refute it at one input. -/
def fnCore208Wrong : ChangeSpec := { name := "fnCore208", fn := fun _ => fun
  | [d] => { results := [.lit (.bool false)], args := [d] }
  | _ => none }
def FnCore208WrongFalsely : Prop := fnCore208Row.holds Try.pinned (OpenSpec.ofChange fnCore208Wrong)

/-- 'laws.FnStream': WHATEVER THE INPUT: true; the input reads as it did. -/
def fnStreamSpec : ChangeSpec := { name := "fnStream", fn := fun _ => fun
  | [d1, d2, d3] => { results := [.lit (.bool true)], args := [d1, d2, d3] }
  | _ => none }
def fnStreamRow : OpenClaim := { program := "ytioeoacjnbckhaa", sum := "620fe1cfb0c43c2519fdb4d18ec17385064ce67c3cefa723e7c609075f559b36", func := "loop.example/pub-g03045/laws.FnStream", spec := "fnStream", apart := false }
def FnStreamSaid : Prop := fnStreamRow.holds Try.pinned (OpenSpec.ofChange fnStreamSpec)

/-- ITS FALSE NEIGHBOUR: 'it returns false'. Refute it at one input. -/
def fnStreamWrong : ChangeSpec := { name := "fnStream", fn := fun _ => fun
  | [d1, d2, d3] => { results := [.lit (.bool false)], args := [d1, d2, d3] }
  | _ => none }
def FnStreamWrongFalsely : Prop := fnStreamRow.holds Try.pinned (OpenSpec.ofChange fnStreamWrong)

/-- 'laws.FnPolyTurned': WHATEVER THE INPUT: true; the input reads as it did. -/
def fnPolyTurnedSpec : ChangeSpec := { name := "fnPolyTurned", fn := fun _ => fun
  | [d1, d2, d3] => { results := [.lit (.bool true)], args := [d1, d2, d3] }
  | _ => none }
def fnPolyTurnedRow : OpenClaim := { program := "ytioeoacjnbckhaa", sum := "620fe1cfb0c43c2519fdb4d18ec17385064ce67c3cefa723e7c609075f559b36", func := "loop.example/pub-g03045/laws.FnPolyTurned", spec := "fnPolyTurned", inPlace := ["math/bits.Add64", "math/bits.Sub64", "crypto/internal/constanttime.boolToUint8"], named := ["encoding/binary.LittleEndian"], apart := false }
def FnPolyTurnedSaid : Prop := fnPolyTurnedRow.holds Try.pinned (OpenSpec.ofChange fnPolyTurnedSpec)

/-- ITS FALSE NEIGHBOUR: 'it returns false'. Refute it at one input. -/
def fnPolyTurnedWrong : ChangeSpec := { name := "fnPolyTurned", fn := fun _ => fun
  | [d1, d2, d3] => { results := [.lit (.bool false)], args := [d1, d2, d3] }
  | _ => none }
def FnPolyTurnedWrongFalsely : Prop := fnPolyTurnedRow.holds Try.pinned (OpenSpec.ofChange fnPolyTurnedWrong)

/-- 'laws.FnPoly': WHATEVER THE INPUT: true; the input reads as it did. -/
def fnPolySpec : ChangeSpec := { name := "fnPoly", fn := fun _ => fun
  | [d1, d2, d3] => { results := [.lit (.bool true)], args := [d1, d2, d3] }
  | _ => none }
def fnPolyRow : OpenClaim := { program := "ytioeoacjnbckhaa", sum := "620fe1cfb0c43c2519fdb4d18ec17385064ce67c3cefa723e7c609075f559b36", func := "loop.example/pub-g03045/laws.FnPoly", spec := "fnPoly", inPlace := ["math/bits.Add64", "math/bits.Sub64", "crypto/internal/constanttime.boolToUint8"], named := ["encoding/binary.LittleEndian"], apart := false }
def FnPolySaid : Prop := fnPolyRow.holds Try.pinned (OpenSpec.ofChange fnPolySpec)

/-- ITS FALSE NEIGHBOUR: 'it returns false'. Refute it at one input. -/
def fnPolyWrong : ChangeSpec := { name := "fnPoly", fn := fun _ => fun
  | [d1, d2, d3] => { results := [.lit (.bool false)], args := [d1, d2, d3] }
  | _ => none }
def FnPolyWrongFalsely : Prop := fnPolyRow.holds Try.pinned (OpenSpec.ofChange fnPolyWrong)

/-- 'laws.FnSalsa20': WHATEVER THE INPUT: true; the input reads as it did. -/
def fnSalsa20Spec : ChangeSpec := { name := "fnSalsa20", fn := fun _ => fun
  | [d1, d2, d3] => { results := [.lit (.bool true)], args := [d1, d2, d3] }
  | _ => none }
def fnSalsa20Row : OpenClaim := { program := "ytioeoacjnbckhaa", sum := "620fe1cfb0c43c2519fdb4d18ec17385064ce67c3cefa723e7c609075f559b36", func := "loop.example/pub-g03045/laws.FnSalsa20", spec := "fnSalsa20", apart := false }
def FnSalsa20Said : Prop := fnSalsa20Row.holds Try.pinned (OpenSpec.ofChange fnSalsa20Spec)

/-- ITS FALSE NEIGHBOUR: 'it returns false'. Refute it at one input. -/
def fnSalsa20Wrong : ChangeSpec := { name := "fnSalsa20", fn := fun _ => fun
  | [d1, d2, d3] => { results := [.lit (.bool false)], args := [d1, d2, d3] }
  | _ => none }
def FnSalsa20WrongFalsely : Prop := fnSalsa20Row.holds Try.pinned (OpenSpec.ofChange fnSalsa20Wrong)

/-- 'laws.FnSalsaBack': WHATEVER THE INPUT: true; the input reads as it did. -/
def fnSalsaBackSpec : ChangeSpec := { name := "fnSalsaBack", fn := fun _ => fun
  | [d1, d2, d3] => { results := [.lit (.bool true)], args := [d1, d2, d3] }
  | _ => none }
def fnSalsaBackRow : OpenClaim := { program := "ytioeoacjnbckhaa", sum := "620fe1cfb0c43c2519fdb4d18ec17385064ce67c3cefa723e7c609075f559b36", func := "loop.example/pub-g03045/laws.FnSalsaBack", spec := "fnSalsaBack", apart := false }
def FnSalsaBackSaid : Prop := fnSalsaBackRow.holds Try.pinned (OpenSpec.ofChange fnSalsaBackSpec)

/-- ITS FALSE NEIGHBOUR: 'it returns false'. Refute it at one input. -/
def fnSalsaBackWrong : ChangeSpec := { name := "fnSalsaBack", fn := fun _ => fun
  | [d1, d2, d3] => { results := [.lit (.bool false)], args := [d1, d2, d3] }
  | _ => none }
def FnSalsaBackWrongFalsely : Prop := fnSalsaBackRow.holds Try.pinned (OpenSpec.ofChange fnSalsaBackWrong)

/-- 'laws.FnSeal': WHATEVER THE INPUT: true; the input reads as it did. -/
def fnSealSpec : ChangeSpec := { name := "fnSeal", fn := fun _ => fun
  | [d1, d2, d3, d4] => { results := [.lit (.bool true)], args := [d1, d2, d3, d4] }
  | _ => none }
def fnSealRow : OpenClaim := { program := "ytioeoacjnbckhaa", sum := "620fe1cfb0c43c2519fdb4d18ec17385064ce67c3cefa723e7c609075f559b36", func := "loop.example/pub-g03045/laws.FnSeal", spec := "fnSeal", inPlace := ["math/bits.Add64", "math/bits.Sub64"], named := ["encoding/binary.LittleEndian"], apart := false }
def FnSealSaid : Prop := fnSealRow.holds Try.pinned (OpenSpec.ofChange fnSealSpec)

/-- ITS FALSE NEIGHBOUR: 'it returns false'. Refute it at one input. -/
def fnSealWrong : ChangeSpec := { name := "fnSeal", fn := fun _ => fun
  | [d1, d2, d3, d4] => { results := [.lit (.bool false)], args := [d1, d2, d3, d4] }
  | _ => none }
def FnSealWrongFalsely : Prop := fnSealRow.holds Try.pinned (OpenSpec.ofChange fnSealWrong)

/-- 'laws.FnOpenIs': WHATEVER THE INPUT: true; the input reads as it did. -/
def fnOpenIsSpec : ChangeSpec := { name := "fnOpenIs", fn := fun _ => fun
  | [d1, d2, d3] => { results := [.lit (.bool true)], args := [d1, d2, d3] }
  | _ => none }
def fnOpenIsRow : OpenClaim := { program := "ytioeoacjnbckhaa", sum := "620fe1cfb0c43c2519fdb4d18ec17385064ce67c3cefa723e7c609075f559b36", func := "loop.example/pub-g03045/laws.FnOpenIs", spec := "fnOpenIs", inPlace := ["math/bits.Add64", "math/bits.Sub64", "crypto/internal/constanttime.boolToUint8"], named := ["encoding/binary.LittleEndian"], apart := false }
def FnOpenIsSaid : Prop := fnOpenIsRow.holds Try.pinned (OpenSpec.ofChange fnOpenIsSpec)

/-- ITS FALSE NEIGHBOUR: 'it returns false'. Refute it at one input. -/
def fnOpenIsWrong : ChangeSpec := { name := "fnOpenIs", fn := fun _ => fun
  | [d1, d2, d3] => { results := [.lit (.bool false)], args := [d1, d2, d3] }
  | _ => none }
def FnOpenIsWrongFalsely : Prop := fnOpenIsRow.holds Try.pinned (OpenSpec.ofChange fnOpenIsWrong)

/-- 'laws.FnOpenTurned': WHATEVER THE INPUT: true; the input reads as it did. -/
def fnOpenTurnedSpec : ChangeSpec := { name := "fnOpenTurned", fn := fun _ => fun
  | [d1, d2, d3, d4] => { results := [.lit (.bool true)], args := [d1, d2, d3, d4] }
  | _ => none }
def fnOpenTurnedRow : OpenClaim := { program := "ytioeoacjnbckhaa", sum := "620fe1cfb0c43c2519fdb4d18ec17385064ce67c3cefa723e7c609075f559b36", func := "loop.example/pub-g03045/laws.FnOpenTurned", spec := "fnOpenTurned", inPlace := ["math/bits.Add64", "math/bits.Sub64", "crypto/internal/constanttime.boolToUint8"], named := ["encoding/binary.LittleEndian"], apart := false }
def FnOpenTurnedSaid : Prop := fnOpenTurnedRow.holds Try.pinned (OpenSpec.ofChange fnOpenTurnedSpec)

/-- ITS FALSE NEIGHBOUR: 'it returns false'. Refute it at one input. -/
def fnOpenTurnedWrong : ChangeSpec := { name := "fnOpenTurned", fn := fun _ => fun
  | [d1, d2, d3, d4] => { results := [.lit (.bool false)], args := [d1, d2, d3, d4] }
  | _ => none }
def FnOpenTurnedWrongFalsely : Prop := fnOpenTurnedRow.holds Try.pinned (OpenSpec.ofChange fnOpenTurnedWrong)

/-- 'laws.FnOpenSeal': WHATEVER THE INPUT: true; the input reads as it did. -/
def fnOpenSealSpec : ChangeSpec := { name := "fnOpenSeal", fn := fun _ => fun
  | [d1, d2, d3, d4] => { results := [.lit (.bool true)], args := [d1, d2, d3, d4] }
  | _ => none }
def fnOpenSealRow : OpenClaim := { program := "ytioeoacjnbckhaa", sum := "620fe1cfb0c43c2519fdb4d18ec17385064ce67c3cefa723e7c609075f559b36", func := "loop.example/pub-g03045/laws.FnOpenSeal", spec := "fnOpenSeal", inPlace := ["math/bits.Add64", "math/bits.Sub64", "crypto/internal/constanttime.boolToUint8"], named := ["encoding/binary.LittleEndian"], apart := false }
def FnOpenSealSaid : Prop := fnOpenSealRow.holds Try.pinned (OpenSpec.ofChange fnOpenSealSpec)

/-- ITS FALSE NEIGHBOUR: 'it returns false'. Refute it at one input. -/
def fnOpenSealWrong : ChangeSpec := { name := "fnOpenSeal", fn := fun _ => fun
  | [d1, d2, d3, d4] => { results := [.lit (.bool false)], args := [d1, d2, d3, d4] }
  | _ => none }
def FnOpenSealWrongFalsely : Prop := fnOpenSealRow.holds Try.pinned (OpenSpec.ofChange fnOpenSealWrong)

/-- 'laws.FnAfter': WHATEVER THE INPUT: true; the input reads as it did. -/
def fnAfterSpec : ChangeSpec := { name := "fnAfter", fn := fun _ => fun
  | [d1, d2, d3, d4] => { results := [.lit (.bool true)], args := [d1, d2, d3, d4] }
  | _ => none }
def fnAfterRow : OpenClaim := { program := "ytioeoacjnbckhaa", sum := "620fe1cfb0c43c2519fdb4d18ec17385064ce67c3cefa723e7c609075f559b36", func := "loop.example/pub-g03045/laws.FnAfter", spec := "fnAfter", inPlace := ["math/bits.Add64", "math/bits.Sub64", "crypto/internal/constanttime.boolToUint8"], named := ["encoding/binary.LittleEndian"], apart := false }
def FnAfterSaid : Prop := fnAfterRow.holds Try.pinned (OpenSpec.ofChange fnAfterSpec)

/-- ITS FALSE NEIGHBOUR: 'it returns false'. Refute it at one input. -/
def fnAfterWrong : ChangeSpec := { name := "fnAfter", fn := fun _ => fun
  | [d1, d2, d3, d4] => { results := [.lit (.bool false)], args := [d1, d2, d3, d4] }
  | _ => none }
def FnAfterWrongFalsely : Prop := fnAfterRow.holds Try.pinned (OpenSpec.ofChange fnAfterWrong)

/-- 'laws.FnAuthTurned': WHATEVER THE INPUT: true; the input reads as it did. -/
def fnAuthTurnedSpec : ChangeSpec := { name := "fnAuthTurned", fn := fun _ => fun
  | [d1, d2, d3, d4] => { results := [.lit (.bool true)], args := [d1, d2, d3, d4] }
  | _ => none }
def fnAuthTurnedRow : OpenClaim := { program := "ytioeoacjnbckhaa", sum := "620fe1cfb0c43c2519fdb4d18ec17385064ce67c3cefa723e7c609075f559b36", func := "loop.example/pub-g03045/laws.FnAuthTurned", spec := "fnAuthTurned", unfollowed := true, recurses := true, apart := false }
def FnAuthTurnedSaid : Prop := fnAuthTurnedRow.holds Try.pinned (OpenSpec.ofChange fnAuthTurnedSpec)

/-- ITS FALSE NEIGHBOUR: 'it returns false'. Refute it at one input. -/
def fnAuthTurnedWrong : ChangeSpec := { name := "fnAuthTurned", fn := fun _ => fun
  | [d1, d2, d3, d4] => { results := [.lit (.bool false)], args := [d1, d2, d3, d4] }
  | _ => none }
def FnAuthTurnedWrongFalsely : Prop := fnAuthTurnedRow.holds Try.pinned (OpenSpec.ofChange fnAuthTurnedWrong)

/-- 'laws.FnAuth': WHATEVER THE INPUT: true; the input reads as it did. -/
def fnAuthSpec : ChangeSpec := { name := "fnAuth", fn := fun _ => fun
  | [d1, d2] => { results := [.lit (.bool true)], args := [d1, d2] }
  | _ => none }
def fnAuthRow : OpenClaim := { program := "ytioeoacjnbckhaa", sum := "620fe1cfb0c43c2519fdb4d18ec17385064ce67c3cefa723e7c609075f559b36", func := "loop.example/pub-g03045/laws.FnAuth", spec := "fnAuth", unfollowed := true, recurses := true, apart := false }
def FnAuthSaid : Prop := fnAuthRow.holds Try.pinned (OpenSpec.ofChange fnAuthSpec)

/-- ITS FALSE NEIGHBOUR: 'it returns false'. Refute it at one input. -/
def fnAuthWrong : ChangeSpec := { name := "fnAuth", fn := fun _ => fun
  | [d1, d2] => { results := [.lit (.bool false)], args := [d1, d2] }
  | _ => none }
def FnAuthWrongFalsely : Prop := fnAuthRow.holds Try.pinned (OpenSpec.ofChange fnAuthWrong)

/- THE SECOND FORM. 'bulk': how many values and letters a reading holds, each counted each time it is reached (what is shared counts as often as it is met; a slice's spare places count too). A statement '..UptoSaid' is the law's where the arguments, and the package variables that the reading takes, are together of bulk at most 1048576: NARROWER than '..Said'. Prove '..Said' where nothing that the law and all that it calls make is longer than what came in: it says more and counts as full. Else prove '..UptoSaid'. A law counts once. -/
mutual
def uptoBulk {H : Type} : DataW H → Nat
  | .lit (.string bytes) => bytes.length + 1
  | .lit _ => 1
  | .nil => 1
  | .ptr d => uptoBulk d + 1
  | .slice elems spare => uptoBulkAll elems + uptoBulkAll spare + 1
  | .agg parts => uptoBulkAll parts + 1
  | .iface _ d => uptoBulk d + 1
  | .map entries => uptoBulkEntries entries + 1
  | .held _ => 1
def uptoBulkAll {H : Type} : List (DataW H) → Nat
  | [] => 0
  | d :: r => uptoBulk d + uptoBulkAll r
def uptoBulkEntries {H : Type} : List (Lit × DataW H) → Nat
  | [] => 0
  | x :: r => uptoBulkEntry x + uptoBulkEntries r
def uptoBulkEntry {H : Type} : Lit × DataW H → Nat
  | (.string bytes, d) => bytes.length + uptoBulk d + 1
  | (_, d) => uptoBulk d + 1
 end
def uptoSmall : (H : Type) → List (DataW H) → Bool := fun _ ds => decide (uptoBulkAll ds ≤ 1048576)
def OpenSpec.upto (s : _root_.Go.ChangeSpec) : _root_.Go.OpenSpec := { _root_.Go.OpenSpec.ofChange s with cond := some uptoSmall }

/-- 'laws.FnHSalsa', WHERE WHAT IT READS IS OF BULK AT MOST 1048576: true; the input reads as it did. -/
def fnHSalsaUptoRow : OpenClaim := { program := "ytioeoacjnbckhaa", sum := "620fe1cfb0c43c2519fdb4d18ec17385064ce67c3cefa723e7c609075f559b36", func := "loop.example/pub-g03045/laws.FnHSalsa", spec := "fnHSalsa", apart := false, narrowed := true }
def FnHSalsaUptoSaid : Prop := fnHSalsaUptoRow.holds Try.pinned (OpenSpec.upto fnHSalsaSpec)

/-- 'laws.FnCore208', WHERE WHAT IT READS IS OF BULK AT MOST 1048576: true; the input reads as it did. -/
def fnCore208UptoRow : OpenClaim := { program := "ytioeoacjnbckhaa", sum := "620fe1cfb0c43c2519fdb4d18ec17385064ce67c3cefa723e7c609075f559b36", func := "loop.example/pub-g03045/laws.FnCore208", spec := "fnCore208", apart := false, narrowed := true }
def FnCore208UptoSaid : Prop := fnCore208UptoRow.holds Try.pinned (OpenSpec.upto fnCore208Spec)

/-- 'laws.FnStream', WHERE WHAT IT READS IS OF BULK AT MOST 1048576: true; the input reads as it did. -/
def fnStreamUptoRow : OpenClaim := { program := "ytioeoacjnbckhaa", sum := "620fe1cfb0c43c2519fdb4d18ec17385064ce67c3cefa723e7c609075f559b36", func := "loop.example/pub-g03045/laws.FnStream", spec := "fnStream", apart := false, narrowed := true }
def FnStreamUptoSaid : Prop := fnStreamUptoRow.holds Try.pinned (OpenSpec.upto fnStreamSpec)

/-- 'laws.FnPolyTurned', WHERE WHAT IT READS IS OF BULK AT MOST 1048576: true; the input reads as it did. -/
def fnPolyTurnedUptoRow : OpenClaim := { program := "ytioeoacjnbckhaa", sum := "620fe1cfb0c43c2519fdb4d18ec17385064ce67c3cefa723e7c609075f559b36", func := "loop.example/pub-g03045/laws.FnPolyTurned", spec := "fnPolyTurned", inPlace := ["math/bits.Add64", "math/bits.Sub64", "crypto/internal/constanttime.boolToUint8"], named := ["encoding/binary.LittleEndian"], apart := false, narrowed := true }
def FnPolyTurnedUptoSaid : Prop := fnPolyTurnedUptoRow.holds Try.pinned (OpenSpec.upto fnPolyTurnedSpec)

/-- 'laws.FnPoly', WHERE WHAT IT READS IS OF BULK AT MOST 1048576: true; the input reads as it did. -/
def fnPolyUptoRow : OpenClaim := { program := "ytioeoacjnbckhaa", sum := "620fe1cfb0c43c2519fdb4d18ec17385064ce67c3cefa723e7c609075f559b36", func := "loop.example/pub-g03045/laws.FnPoly", spec := "fnPoly", inPlace := ["math/bits.Add64", "math/bits.Sub64", "crypto/internal/constanttime.boolToUint8"], named := ["encoding/binary.LittleEndian"], apart := false, narrowed := true }
def FnPolyUptoSaid : Prop := fnPolyUptoRow.holds Try.pinned (OpenSpec.upto fnPolySpec)

/-- 'laws.FnSalsa20', WHERE WHAT IT READS IS OF BULK AT MOST 1048576: true; the input reads as it did. -/
def fnSalsa20UptoRow : OpenClaim := { program := "ytioeoacjnbckhaa", sum := "620fe1cfb0c43c2519fdb4d18ec17385064ce67c3cefa723e7c609075f559b36", func := "loop.example/pub-g03045/laws.FnSalsa20", spec := "fnSalsa20", apart := false, narrowed := true }
def FnSalsa20UptoSaid : Prop := fnSalsa20UptoRow.holds Try.pinned (OpenSpec.upto fnSalsa20Spec)

/-- 'laws.FnSalsaBack', WHERE WHAT IT READS IS OF BULK AT MOST 1048576: true; the input reads as it did. -/
def fnSalsaBackUptoRow : OpenClaim := { program := "ytioeoacjnbckhaa", sum := "620fe1cfb0c43c2519fdb4d18ec17385064ce67c3cefa723e7c609075f559b36", func := "loop.example/pub-g03045/laws.FnSalsaBack", spec := "fnSalsaBack", apart := false, narrowed := true }
def FnSalsaBackUptoSaid : Prop := fnSalsaBackUptoRow.holds Try.pinned (OpenSpec.upto fnSalsaBackSpec)

/-- 'laws.FnSeal', WHERE WHAT IT READS IS OF BULK AT MOST 1048576: true; the input reads as it did. -/
def fnSealUptoRow : OpenClaim := { program := "ytioeoacjnbckhaa", sum := "620fe1cfb0c43c2519fdb4d18ec17385064ce67c3cefa723e7c609075f559b36", func := "loop.example/pub-g03045/laws.FnSeal", spec := "fnSeal", inPlace := ["math/bits.Add64", "math/bits.Sub64"], named := ["encoding/binary.LittleEndian"], apart := false, narrowed := true }
def FnSealUptoSaid : Prop := fnSealUptoRow.holds Try.pinned (OpenSpec.upto fnSealSpec)

/-- 'laws.FnOpenIs', WHERE WHAT IT READS IS OF BULK AT MOST 1048576: true; the input reads as it did. -/
def fnOpenIsUptoRow : OpenClaim := { program := "ytioeoacjnbckhaa", sum := "620fe1cfb0c43c2519fdb4d18ec17385064ce67c3cefa723e7c609075f559b36", func := "loop.example/pub-g03045/laws.FnOpenIs", spec := "fnOpenIs", inPlace := ["math/bits.Add64", "math/bits.Sub64", "crypto/internal/constanttime.boolToUint8"], named := ["encoding/binary.LittleEndian"], apart := false, narrowed := true }
def FnOpenIsUptoSaid : Prop := fnOpenIsUptoRow.holds Try.pinned (OpenSpec.upto fnOpenIsSpec)

/-- 'laws.FnOpenTurned', WHERE WHAT IT READS IS OF BULK AT MOST 1048576: true; the input reads as it did. -/
def fnOpenTurnedUptoRow : OpenClaim := { program := "ytioeoacjnbckhaa", sum := "620fe1cfb0c43c2519fdb4d18ec17385064ce67c3cefa723e7c609075f559b36", func := "loop.example/pub-g03045/laws.FnOpenTurned", spec := "fnOpenTurned", inPlace := ["math/bits.Add64", "math/bits.Sub64", "crypto/internal/constanttime.boolToUint8"], named := ["encoding/binary.LittleEndian"], apart := false, narrowed := true }
def FnOpenTurnedUptoSaid : Prop := fnOpenTurnedUptoRow.holds Try.pinned (OpenSpec.upto fnOpenTurnedSpec)

/-- 'laws.FnOpenSeal', WHERE WHAT IT READS IS OF BULK AT MOST 1048576: true; the input reads as it did. -/
def fnOpenSealUptoRow : OpenClaim := { program := "ytioeoacjnbckhaa", sum := "620fe1cfb0c43c2519fdb4d18ec17385064ce67c3cefa723e7c609075f559b36", func := "loop.example/pub-g03045/laws.FnOpenSeal", spec := "fnOpenSeal", inPlace := ["math/bits.Add64", "math/bits.Sub64", "crypto/internal/constanttime.boolToUint8"], named := ["encoding/binary.LittleEndian"], apart := false, narrowed := true }
def FnOpenSealUptoSaid : Prop := fnOpenSealUptoRow.holds Try.pinned (OpenSpec.upto fnOpenSealSpec)

/-- 'laws.FnAfter', WHERE WHAT IT READS IS OF BULK AT MOST 1048576: true; the input reads as it did. -/
def fnAfterUptoRow : OpenClaim := { program := "ytioeoacjnbckhaa", sum := "620fe1cfb0c43c2519fdb4d18ec17385064ce67c3cefa723e7c609075f559b36", func := "loop.example/pub-g03045/laws.FnAfter", spec := "fnAfter", inPlace := ["math/bits.Add64", "math/bits.Sub64", "crypto/internal/constanttime.boolToUint8"], named := ["encoding/binary.LittleEndian"], apart := false, narrowed := true }
def FnAfterUptoSaid : Prop := fnAfterUptoRow.holds Try.pinned (OpenSpec.upto fnAfterSpec)

/-- 'laws.FnAuthTurned', WHERE WHAT IT READS IS OF BULK AT MOST 1048576: true; the input reads as it did. -/
def fnAuthTurnedUptoRow : OpenClaim := { program := "ytioeoacjnbckhaa", sum := "620fe1cfb0c43c2519fdb4d18ec17385064ce67c3cefa723e7c609075f559b36", func := "loop.example/pub-g03045/laws.FnAuthTurned", spec := "fnAuthTurned", unfollowed := true, recurses := true, apart := false, narrowed := true }
def FnAuthTurnedUptoSaid : Prop := fnAuthTurnedUptoRow.holds Try.pinned (OpenSpec.upto fnAuthTurnedSpec)

/-- 'laws.FnAuth', WHERE WHAT IT READS IS OF BULK AT MOST 1048576: true; the input reads as it did. -/
def fnAuthUptoRow : OpenClaim := { program := "ytioeoacjnbckhaa", sum := "620fe1cfb0c43c2519fdb4d18ec17385064ce67c3cefa723e7c609075f559b36", func := "loop.example/pub-g03045/laws.FnAuth", spec := "fnAuth", unfollowed := true, recurses := true, apart := false, narrowed := true }
def FnAuthUptoSaid : Prop := fnAuthUptoRow.holds Try.pinned (OpenSpec.upto fnAuthSpec)

end Rows
end Go.Proofs.Ytioeoacjnbckhaa
