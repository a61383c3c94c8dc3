/-
  No cell of these rows narrows 'for every input' (looked for: loops, veiled, ifaces, maps, wideKeys, modest, calm, conditions, laid).
  DERIVED. THE GIVEN ROWS OF THIS SEAT. 3 by the template 'for every input the law returns true; each argument reads behind the call as it read before'; 0 by the template 'total and deterministic' (their statements: YtgiejdmbnilfaaaTotals.lean).
  GIVEN WITH THE SEED: the statements are not yours to turn. If you find one false, say at which input.
  Laid BY PROGRAM, IN A SANDBOX (cutbox-rows.mjs): the forced cells as the released guide's own fill.sh prints them over the translation 7258985fc347a2f3… (all of the seat's roots in one cut). By AI agents, Wed Nov 11 2026. No macro, syntax, notation, axiom, sorry.
-/
import Derived.Test.YtgiejdmbnilfaaaChecked
import GoSem.Claim
import GoSem.ClaimJoined
import GoSem.ClaimMapViews
import Derived.JoinedTies
import Derived.KernelRfl
namespace Go.Proofs.Ytgiejdmbnilfaaa
/- THE CELL 'sum', in the pinned program and in every row, IS THE sha256 OF THE DUMP (.gsa) THAT YtgiejdmbnilfaaaProg.lean LOADS. Nothing in Lean hashes anything: it is a label: what it is worth is what the hold of that sum in a sandbox is worth. -/
noncomputable def Try.pinned : Pinned := { name := "ytgiejdmbnilfaaa", sum := "7258985fc347a2f32c2e619233e955ce91a240080e86e75b2944b4daf1e527b8", checked := Try.checked }
namespace Rows
def none {H : Type} : Left H := { results := [], args := [] }

/-- 'laws.FnEqualIsEquivalence': WHATEVER THE INPUT: true; the input reads as it did. -/
def fnEqualIsEquivalenceSpec : ChangeSpec := { name := "fnEqualIsEquivalence", fn := fun _ => fun
  | [d1, d2, d3] => { results := [.lit (.bool true)], args := [d1, d2, d3] }
  | _ => none }
def fnEqualIsEquivalenceRow : OpenClaim := { program := "ytgiejdmbnilfaaa", sum := "7258985fc347a2f32c2e619233e955ce91a240080e86e75b2944b4daf1e527b8", func := "loop.example/lib-g01197/laws.FnEqualIsEquivalence", spec := "fnEqualIsEquivalence", inPlace := ["crypto/internal/constanttime.boolToUint8"], apart := false }
def FnEqualIsEquivalenceSaid : Prop := fnEqualIsEquivalenceRow.holds Try.pinned (OpenSpec.ofChange fnEqualIsEquivalenceSpec)

/-- ITS FALSE NEIGHBOUR: 'it returns false'. Refute it at one input. -/
def fnEqualIsEquivalenceWrong : ChangeSpec := { name := "fnEqualIsEquivalence", fn := fun _ => fun
  | [d1, d2, d3] => { results := [.lit (.bool false)], args := [d1, d2, d3] }
  | _ => none }
def FnEqualIsEquivalenceWrongFalsely : Prop := fnEqualIsEquivalenceRow.holds Try.pinned (OpenSpec.ofChange fnEqualIsEquivalenceWrong)

/-- 'laws.FnEqualTellsBytes': WHATEVER THE INPUT: true; the input reads as it did. -/
def fnEqualTellsBytesSpec : ChangeSpec := { name := "fnEqualTellsBytes", fn := fun _ => fun
  | [d1, d2, d3] => { results := [.lit (.bool true)], args := [d1, d2, d3] }
  | _ => none }
def fnEqualTellsBytesRow : OpenClaim := { program := "ytgiejdmbnilfaaa", sum := "7258985fc347a2f32c2e619233e955ce91a240080e86e75b2944b4daf1e527b8", func := "loop.example/lib-g01197/laws.FnEqualTellsBytes", spec := "fnEqualTellsBytes", inPlace := ["crypto/internal/constanttime.boolToUint8"], apart := false }
def FnEqualTellsBytesSaid : Prop := fnEqualTellsBytesRow.holds Try.pinned (OpenSpec.ofChange fnEqualTellsBytesSpec)

/-- ITS FALSE NEIGHBOUR: 'it returns false'. Refute it at one input. -/
def fnEqualTellsBytesWrong : ChangeSpec := { name := "fnEqualTellsBytes", fn := fun _ => fun
  | [d1, d2, d3] => { results := [.lit (.bool false)], args := [d1, d2, d3] }
  | _ => none }
def FnEqualTellsBytesWrongFalsely : Prop := fnEqualTellsBytesRow.holds Try.pinned (OpenSpec.ofChange fnEqualTellsBytesWrong)

/-- 'laws.FnExactEqualMACs': WHATEVER THE INPUT: true; the input reads as it did. -/
def fnExactEqualMACsSpec : ChangeSpec := { name := "fnExactEqualMACs", fn := fun _ => fun
  | [d1, d2] => { results := [.lit (.bool true)], args := [d1, d2] }
  | _ => none }
def fnExactEqualMACsRow : OpenClaim := { program := "ytgiejdmbnilfaaa", sum := "7258985fc347a2f32c2e619233e955ce91a240080e86e75b2944b4daf1e527b8", func := "loop.example/lib-g01197/laws.FnExactEqualMACs", spec := "fnExactEqualMACs", inPlace := ["crypto/internal/constanttime.boolToUint8"], apart := false }
def FnExactEqualMACsSaid : Prop := fnExactEqualMACsRow.holds Try.pinned (OpenSpec.ofChange fnExactEqualMACsSpec)

/-- ITS FALSE NEIGHBOUR: 'it returns false'. Refute it at one input. -/
def fnExactEqualMACsWrong : ChangeSpec := { name := "fnExactEqualMACs", fn := fun _ => fun
  | [d1, d2] => { results := [.lit (.bool false)], args := [d1, d2] }
  | _ => none }
def FnExactEqualMACsWrongFalsely : Prop := fnExactEqualMACsRow.holds Try.pinned (OpenSpec.ofChange fnExactEqualMACsWrong)

/- THE SECOND FORM. 'bulk': how many values and letters a reading holds, each counted each time it is reached (what is shared counts as often as it is met; a slice's spare places count too). A statement '..UptoSaid' is the law's where the arguments, and the package variables that the reading takes, are together of bulk at most 1048576: NARROWER than '..Said'. Prove '..Said' where nothing that the law and all that it calls make is longer than what came in: it says more and counts as full. Else prove '..UptoSaid'. A law counts once. -/
mutual
def uptoBulk {H : Type} : DataW H → Nat
  | .lit (.string bytes) => bytes.length + 1
  | .lit _ => 1
  | .nil => 1
  | .ptr d => uptoBulk d + 1
  | .slice elems spare => uptoBulkAll elems + uptoBulkAll spare + 1
  | .agg parts => uptoBulkAll parts + 1
  | .iface _ d => uptoBulk d + 1
  | .map entries => uptoBulkEntries entries + 1
  | .held _ => 1
def uptoBulkAll {H : Type} : List (DataW H) → Nat
  | [] => 0
  | d :: r => uptoBulk d + uptoBulkAll r
def uptoBulkEntries {H : Type} : List (Lit × DataW H) → Nat
  | [] => 0
  | x :: r => uptoBulkEntry x + uptoBulkEntries r
def uptoBulkEntry {H : Type} : Lit × DataW H → Nat
  | (.string bytes, d) => bytes.length + uptoBulk d + 1
  | (_, d) => uptoBulk d + 1
 end
def uptoSmall : (H : Type) → List (DataW H) → Bool := fun _ ds => decide (uptoBulkAll ds ≤ 1048576)
def OpenSpec.upto (s : _root_.Go.ChangeSpec) : _root_.Go.OpenSpec := { _root_.Go.OpenSpec.ofChange s with cond := some uptoSmall }

/-- 'laws.FnEqualIsEquivalence', WHERE WHAT IT READS IS OF BULK AT MOST 1048576: true; the input reads as it did. -/
def fnEqualIsEquivalenceUptoRow : OpenClaim := { program := "ytgiejdmbnilfaaa", sum := "7258985fc347a2f32c2e619233e955ce91a240080e86e75b2944b4daf1e527b8", func := "loop.example/lib-g01197/laws.FnEqualIsEquivalence", spec := "fnEqualIsEquivalence", inPlace := ["crypto/internal/constanttime.boolToUint8"], apart := false, narrowed := true }
def FnEqualIsEquivalenceUptoSaid : Prop := fnEqualIsEquivalenceUptoRow.holds Try.pinned (OpenSpec.upto fnEqualIsEquivalenceSpec)

/-- 'laws.FnEqualTellsBytes', WHERE WHAT IT READS IS OF BULK AT MOST 1048576: true; the input reads as it did. -/
def fnEqualTellsBytesUptoRow : OpenClaim := { program := "ytgiejdmbnilfaaa", sum := "7258985fc347a2f32c2e619233e955ce91a240080e86e75b2944b4daf1e527b8", func := "loop.example/lib-g01197/laws.FnEqualTellsBytes", spec := "fnEqualTellsBytes", inPlace := ["crypto/internal/constanttime.boolToUint8"], apart := false, narrowed := true }
def FnEqualTellsBytesUptoSaid : Prop := fnEqualTellsBytesUptoRow.holds Try.pinned (OpenSpec.upto fnEqualTellsBytesSpec)

/-- 'laws.FnExactEqualMACs', WHERE WHAT IT READS IS OF BULK AT MOST 1048576: true; the input reads as it did. -/
def fnExactEqualMACsUptoRow : OpenClaim := { program := "ytgiejdmbnilfaaa", sum := "7258985fc347a2f32c2e619233e955ce91a240080e86e75b2944b4daf1e527b8", func := "loop.example/lib-g01197/laws.FnExactEqualMACs", spec := "fnExactEqualMACs", inPlace := ["crypto/internal/constanttime.boolToUint8"], apart := false, narrowed := true }
def FnExactEqualMACsUptoSaid : Prop := fnExactEqualMACsUptoRow.holds Try.pinned (OpenSpec.upto fnExactEqualMACsSpec)

end Rows
end Go.Proofs.Ytgiejdmbnilfaaa
