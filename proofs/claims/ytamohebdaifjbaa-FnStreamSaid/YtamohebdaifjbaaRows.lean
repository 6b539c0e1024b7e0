/-
  No cell of these rows narrows 'for every input' (looked for: loops, veiled, ifaces, maps, wideKeys, modest, calm, conditions, laid).
  DERIVED. THE GIVEN ROWS OF THIS SEAT. 4 by the template 'for every input the law returns true; each argument reads behind the call as it read before'; 0 by the template 'total and deterministic' (their statements: YtamohebdaifjbaaTotals.lean).
  GIVEN WITH THE SEED: the statements are not yours to turn. If you find one false, say at which input.
  Laid BY PROGRAM, IN A SANDBOX (cutbox-rows.mjs): the forced cells as the released guide's own fill.sh prints them over the translation f6d45cec4a09da96… (all of the seat's roots in one cut). By AI agents, Wed Nov 11 2026. No macro, syntax, notation, axiom, sorry.
-/
import Derived.Test.YtamohebdaifjbaaChecked
import GoSem.Claim
import GoSem.ClaimJoined
import GoSem.ClaimMapViews
import Derived.JoinedTies
import Derived.KernelRfl
namespace Go.Proofs.Ytamohebdaifjbaa
/- THE CELL 'sum', in the pinned program and in every row, IS THE sha256 OF THE DUMP (.gsa) THAT YtamohebdaifjbaaProg.lean LOADS. Nothing in Lean hashes anything: it is a label: what it is worth is what the hold of that sum in a sandbox is worth. -/
noncomputable def Try.pinned : Pinned := { name := "ytamohebdaifjbaa", sum := "f6d45cec4a09da965e8ecb47dbcd71c962306e63e7ef1fbcc76e69400d9e917a", checked := Try.checked }
namespace Rows
def none {H : Type} : Left H := { results := [], args := [] }

/-- 'laws.FnCore208': WHATEVER THE INPUT: true; the input reads as it did. -/
def fnCore208Spec : ChangeSpec := { name := "fnCore208", fn := fun _ => fun
  | [d] => { results := [.lit (.bool true)], args := [d] }
  | _ => none }
def fnCore208Row : OpenClaim := { program := "ytamohebdaifjbaa", sum := "f6d45cec4a09da965e8ecb47dbcd71c962306e63e7ef1fbcc76e69400d9e917a", func := "loop.example/pub-g03045/laws.FnCore208", spec := "fnCore208", apart := false }
def FnCore208Said : Prop := fnCore208Row.holds Try.pinned (OpenSpec.ofChange fnCore208Spec)

/-- ITS FALSE NEIGHBOUR: 'it returns false'. Refute it at one input. -/
def fnCore208Wrong : ChangeSpec := { name := "fnCore208", fn := fun _ => fun
  | [d] => { results := [.lit (.bool false)], args := [d] }
  | _ => none }
def FnCore208WrongFalsely : Prop := fnCore208Row.holds Try.pinned (OpenSpec.ofChange fnCore208Wrong)

/-- 'laws.FnStream': WHATEVER THE INPUT: true; the input reads as it did. -/
def fnStreamSpec : ChangeSpec := { name := "fnStream", fn := fun _ => fun
  | [d1, d2, d3] => { results := [.lit (.bool true)], args := [d1, d2, d3] }
  | _ => none }
def fnStreamRow : OpenClaim := { program := "ytamohebdaifjbaa", sum := "f6d45cec4a09da965e8ecb47dbcd71c962306e63e7ef1fbcc76e69400d9e917a", func := "loop.example/pub-g03045/laws.FnStream", spec := "fnStream", apart := false }
def FnStreamSaid : Prop := fnStreamRow.holds Try.pinned (OpenSpec.ofChange fnStreamSpec)

/-- ITS FALSE NEIGHBOUR: 'it returns false'. Refute it at one input. -/
def fnStreamWrong : ChangeSpec := { name := "fnStream", fn := fun _ => fun
  | [d1, d2, d3] => { results := [.lit (.bool false)], args := [d1, d2, d3] }
  | _ => none }
def FnStreamWrongFalsely : Prop := fnStreamRow.holds Try.pinned (OpenSpec.ofChange fnStreamWrong)

/-- 'laws.FnSalsa20': WHATEVER THE INPUT: true; the input reads as it did. -/
def fnSalsa20Spec : ChangeSpec := { name := "fnSalsa20", fn := fun _ => fun
  | [d1, d2, d3] => { results := [.lit (.bool true)], args := [d1, d2, d3] }
  | _ => none }
def fnSalsa20Row : OpenClaim := { program := "ytamohebdaifjbaa", sum := "f6d45cec4a09da965e8ecb47dbcd71c962306e63e7ef1fbcc76e69400d9e917a", func := "loop.example/pub-g03045/laws.FnSalsa20", spec := "fnSalsa20", apart := false }
def FnSalsa20Said : Prop := fnSalsa20Row.holds Try.pinned (OpenSpec.ofChange fnSalsa20Spec)

/-- ITS FALSE NEIGHBOUR: 'it returns false'. Refute it at one input. -/
def fnSalsa20Wrong : ChangeSpec := { name := "fnSalsa20", fn := fun _ => fun
  | [d1, d2, d3] => { results := [.lit (.bool false)], args := [d1, d2, d3] }
  | _ => none }
def FnSalsa20WrongFalsely : Prop := fnSalsa20Row.holds Try.pinned (OpenSpec.ofChange fnSalsa20Wrong)

/-- 'laws.FnSalsaBack': WHATEVER THE INPUT: true; the input reads as it did. -/
def fnSalsaBackSpec : ChangeSpec := { name := "fnSalsaBack", fn := fun _ => fun
  | [d1, d2, d3] => { results := [.lit (.bool true)], args := [d1, d2, d3] }
  | _ => none }
def fnSalsaBackRow : OpenClaim := { program := "ytamohebdaifjbaa", sum := "f6d45cec4a09da965e8ecb47dbcd71c962306e63e7ef1fbcc76e69400d9e917a", func := "loop.example/pub-g03045/laws.FnSalsaBack", spec := "fnSalsaBack", apart := false }
def FnSalsaBackSaid : Prop := fnSalsaBackRow.holds Try.pinned (OpenSpec.ofChange fnSalsaBackSpec)

/-- ITS FALSE NEIGHBOUR: 'it returns false'. Refute it at one input. -/
def fnSalsaBackWrong : ChangeSpec := { name := "fnSalsaBack", fn := fun _ => fun
  | [d1, d2, d3] => { results := [.lit (.bool false)], args := [d1, d2, d3] }
  | _ => none }
def FnSalsaBackWrongFalsely : Prop := fnSalsaBackRow.holds Try.pinned (OpenSpec.ofChange fnSalsaBackWrong)

/- THE SECOND FORM. 'bulk': how many values and letters a reading holds, each counted each time it is reached (what is shared counts as often as it is met; a slice's spare places count too). A statement '..UptoSaid' is the law's where the arguments, and the package variables that the reading takes, are together of bulk at most 1048576: NARROWER than '..Said'. Prove '..Said' where nothing that the law and all that it calls make is longer than what came in: it says more and counts as full. Else prove '..UptoSaid'. A law counts once. -/
mutual
def uptoBulk {H : Type} : DataW H → Nat
  | .lit (.string bytes) => bytes.length + 1
  | .lit _ => 1
  | .nil => 1
  | .ptr d => uptoBulk d + 1
  | .slice elems spare => uptoBulkAll elems + uptoBulkAll spare + 1
  | .agg parts => uptoBulkAll parts + 1
  | .iface _ d => uptoBulk d + 1
  | .map entries => uptoBulkEntries entries + 1
  | .held _ => 1
def uptoBulkAll {H : Type} : List (DataW H) → Nat
  | [] => 0
  | d :: r => uptoBulk d + uptoBulkAll r
def uptoBulkEntries {H : Type} : List (Lit × DataW H) → Nat
  | [] => 0
  | x :: r => uptoBulkEntry x + uptoBulkEntries r
def uptoBulkEntry {H : Type} : Lit × DataW H → Nat
  | (.string bytes, d) => bytes.length + uptoBulk d + 1
  | (_, d) => uptoBulk d + 1
 end
def uptoSmall : (H : Type) → List (DataW H) → Bool := fun _ ds => decide (uptoBulkAll ds ≤ 1048576)
def OpenSpec.upto (s : _root_.Go.ChangeSpec) : _root_.Go.OpenSpec := { _root_.Go.OpenSpec.ofChange s with cond := some uptoSmall }

/-- 'laws.FnCore208', WHERE WHAT IT READS IS OF BULK AT MOST 1048576: true; the input reads as it did. -/
def fnCore208UptoRow : OpenClaim := { program := "ytamohebdaifjbaa", sum := "f6d45cec4a09da965e8ecb47dbcd71c962306e63e7ef1fbcc76e69400d9e917a", func := "loop.example/pub-g03045/laws.FnCore208", spec := "fnCore208", apart := false, narrowed := true }
def FnCore208UptoSaid : Prop := fnCore208UptoRow.holds Try.pinned (OpenSpec.upto fnCore208Spec)

/-- 'laws.FnStream', WHERE WHAT IT READS IS OF BULK AT MOST 1048576: true; the input reads as it did. -/
def fnStreamUptoRow : OpenClaim := { program := "ytamohebdaifjbaa", sum := "f6d45cec4a09da965e8ecb47dbcd71c962306e63e7ef1fbcc76e69400d9e917a", func := "loop.example/pub-g03045/laws.FnStream", spec := "fnStream", apart := false, narrowed := true }
def FnStreamUptoSaid : Prop := fnStreamUptoRow.holds Try.pinned (OpenSpec.upto fnStreamSpec)

/-- 'laws.FnSalsa20', WHERE WHAT IT READS IS OF BULK AT MOST 1048576: true; the input reads as it did. -/
def fnSalsa20UptoRow : OpenClaim := { program := "ytamohebdaifjbaa", sum := "f6d45cec4a09da965e8ecb47dbcd71c962306e63e7ef1fbcc76e69400d9e917a", func := "loop.example/pub-g03045/laws.FnSalsa20", spec := "fnSalsa20", apart := false, narrowed := true }
def FnSalsa20UptoSaid : Prop := fnSalsa20UptoRow.holds Try.pinned (OpenSpec.upto fnSalsa20Spec)

/-- 'laws.FnSalsaBack', WHERE WHAT IT READS IS OF BULK AT MOST 1048576: true; the input reads as it did. -/
def fnSalsaBackUptoRow : OpenClaim := { program := "ytamohebdaifjbaa", sum := "f6d45cec4a09da965e8ecb47dbcd71c962306e63e7ef1fbcc76e69400d9e917a", func := "loop.example/pub-g03045/laws.FnSalsaBack", spec := "fnSalsaBack", apart := false, narrowed := true }
def FnSalsaBackUptoSaid : Prop := fnSalsaBackUptoRow.holds Try.pinned (OpenSpec.upto fnSalsaBackSpec)

end Rows
end Go.Proofs.Ytamohebdaifjbaa
