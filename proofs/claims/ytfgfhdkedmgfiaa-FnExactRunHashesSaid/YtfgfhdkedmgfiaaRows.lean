/-
  No cell of these rows narrows 'for every input' (looked for: loops, veiled, ifaces, maps, wideKeys, modest, calm, conditions, laid).
  DERIVED. THE GIVEN ROWS OF THIS SEAT. 8 by the template 'for every input the law returns true; each argument reads behind the call as it read before'; 0 by the template 'total and deterministic' (their statements: YtfgfhdkedmgfiaaTotals.lean).
  GIVEN WITH THE SEED: the statements are not yours to turn. If you find one false, say at which input.
  Laid BY PROGRAM, IN A SANDBOX (cutbox-rows.mjs): the forced cells as the released guide's own fill.sh prints them over the translation 8086c4720286f749… (all of the seat's roots in one cut). By AI agents, Wed Nov 11 2026. No macro, syntax, notation, axiom, sorry.
-/
import Derived.Test.YtfgfhdkedmgfiaaChecked
import GoSem.Claim
import GoSem.ClaimJoined
import GoSem.ClaimMapViews
import Derived.JoinedTies
import Derived.KernelRfl
namespace Go.Proofs.Ytfgfhdkedmgfiaa
/- THE CELL 'sum', in the pinned program and in every row, IS THE sha256 OF THE DUMP (.gsa) THAT YtfgfhdkedmgfiaaProg.lean LOADS. Nothing in Lean hashes anything: it is a label: what it is worth is what the hold of that sum in a sandbox is worth. -/
noncomputable def Try.pinned : Pinned := { name := "ytfgfhdkedmgfiaa", sum := "8086c4720286f749421aafac89fa8a8f9bc02875d9d2eb851a0b036e424846d9", checked := Try.checked }
namespace Rows
def none {H : Type} : Left H := { results := [], args := [] }

/-- 'laws.FnSavesAndClones': WHATEVER THE INPUT: true; the input reads as it did. -/
def fnSavesAndClonesSpec : ChangeSpec := { name := "fnSavesAndClones", fn := fun _ => fun
  | [d1, d2, d3] => { results := [.lit (.bool true)], args := [d1, d2, d3] }
  | _ => none }
def fnSavesAndClonesRow : OpenClaim := { program := "ytfgfhdkedmgfiaa", sum := "8086c4720286f749421aafac89fa8a8f9bc02875d9d2eb851a0b036e424846d9", func := "loop.example/lib-g01197/laws.FnSavesAndClones", spec := "fnSavesAndClones", inPlace := ["crypto/internal/fips140/alias.AnyOverlap", "crypto/internal/fips140/subtle.xorBytes", "crypto/internal/fips140/sha3.keccakF1600", "crypto/internal/fips140.getIndicator", "crypto/internal/fips140.setIndicator"], apart := false }
def FnSavesAndClonesSaid : Prop := fnSavesAndClonesRow.holds Try.pinned (OpenSpec.ofChange fnSavesAndClonesSpec)

/-- ITS FALSE NEIGHBOUR: 'it returns false'. Refute it at one input. -/
def fnSavesAndClonesWrong : ChangeSpec := { name := "fnSavesAndClones", fn := fun _ => fun
  | [d1, d2, d3] => { results := [.lit (.bool false)], args := [d1, d2, d3] }
  | _ => none }
def FnSavesAndClonesWrongFalsely : Prop := fnSavesAndClonesRow.holds Try.pinned (OpenSpec.ofChange fnSavesAndClonesWrong)

/-- 'laws.FnCutWrites': WHATEVER THE INPUT: true; the input reads as it did. -/
def fnCutWritesSpec : ChangeSpec := { name := "fnCutWrites", fn := fun _ => fun
  | [d1, d2, d3] => { results := [.lit (.bool true)], args := [d1, d2, d3] }
  | _ => none }
def fnCutWritesRow : OpenClaim := { program := "ytfgfhdkedmgfiaa", sum := "8086c4720286f749421aafac89fa8a8f9bc02875d9d2eb851a0b036e424846d9", func := "loop.example/lib-g01197/laws.FnCutWrites", spec := "fnCutWrites", inPlace := ["crypto/internal/fips140/alias.AnyOverlap", "crypto/internal/fips140/subtle.xorBytes", "crypto/internal/fips140/sha3.keccakF1600", "crypto/internal/fips140.getIndicator", "crypto/internal/fips140.setIndicator"], apart := false }
def FnCutWritesSaid : Prop := fnCutWritesRow.holds Try.pinned (OpenSpec.ofChange fnCutWritesSpec)

/-- ITS FALSE NEIGHBOUR: 'it returns false'. Refute it at one input. -/
def fnCutWritesWrong : ChangeSpec := { name := "fnCutWrites", fn := fun _ => fun
  | [d1, d2, d3] => { results := [.lit (.bool false)], args := [d1, d2, d3] }
  | _ => none }
def FnCutWritesWrongFalsely : Prop := fnCutWritesRow.holds Try.pinned (OpenSpec.ofChange fnCutWritesWrong)

/-- 'laws.FnZeroHash': WHATEVER THE INPUT: true; the input reads as it did. -/
def fnZeroHashSpec : ChangeSpec := { name := "fnZeroHash", fn := fun _ => fun
  | [d] => { results := [.lit (.bool true)], args := [d] }
  | _ => none }
def fnZeroHashRow : OpenClaim := { program := "ytfgfhdkedmgfiaa", sum := "8086c4720286f749421aafac89fa8a8f9bc02875d9d2eb851a0b036e424846d9", func := "loop.example/lib-g01197/laws.FnZeroHash", spec := "fnZeroHash", inPlace := ["crypto/internal/fips140/alias.AnyOverlap", "crypto/internal/fips140/subtle.xorBytes", "crypto/internal/fips140/sha3.keccakF1600", "crypto/internal/fips140.getIndicator", "crypto/internal/fips140.setIndicator"], apart := false }
def FnZeroHashSaid : Prop := fnZeroHashRow.holds Try.pinned (OpenSpec.ofChange fnZeroHashSpec)

/-- ITS FALSE NEIGHBOUR: 'it returns false'. Refute it at one input. -/
def fnZeroHashWrong : ChangeSpec := { name := "fnZeroHash", fn := fun _ => fun
  | [d] => { results := [.lit (.bool false)], args := [d] }
  | _ => none }
def FnZeroHashWrongFalsely : Prop := fnZeroHashRow.holds Try.pinned (OpenSpec.ofChange fnZeroHashWrong)

/-- 'laws.FnCutsAgree': WHATEVER THE INPUT: true; the input reads as it did. -/
def fnCutsAgreeSpec : ChangeSpec := { name := "fnCutsAgree", fn := fun _ => fun
  | [d1, d2, d3] => { results := [.lit (.bool true)], args := [d1, d2, d3] }
  | _ => none }
def fnCutsAgreeRow : OpenClaim := { program := "ytfgfhdkedmgfiaa", sum := "8086c4720286f749421aafac89fa8a8f9bc02875d9d2eb851a0b036e424846d9", func := "loop.example/lib-g01197/laws.FnCutsAgree", spec := "fnCutsAgree", inPlace := ["crypto/internal/fips140/alias.AnyOverlap", "crypto/internal/fips140/subtle.xorBytes", "crypto/internal/fips140/sha3.keccakF1600", "crypto/internal/fips140.getIndicator", "crypto/internal/fips140.setIndicator"], apart := false }
def FnCutsAgreeSaid : Prop := fnCutsAgreeRow.holds Try.pinned (OpenSpec.ofChange fnCutsAgreeSpec)

/-- ITS FALSE NEIGHBOUR: 'it returns false'. Refute it at one input. -/
def fnCutsAgreeWrong : ChangeSpec := { name := "fnCutsAgree", fn := fun _ => fun
  | [d1, d2, d3] => { results := [.lit (.bool false)], args := [d1, d2, d3] }
  | _ => none }
def FnCutsAgreeWrongFalsely : Prop := fnCutsAgreeRow.holds Try.pinned (OpenSpec.ofChange fnCutsAgreeWrong)

/-- 'laws.FnEqualSums': WHATEVER THE INPUT: true; the input reads as it did. -/
def fnEqualSumsSpec : ChangeSpec := { name := "fnEqualSums", fn := fun _ => fun
  | [d1, d2] => { results := [.lit (.bool true)], args := [d1, d2] }
  | _ => none }
def fnEqualSumsRow : OpenClaim := { program := "ytfgfhdkedmgfiaa", sum := "8086c4720286f749421aafac89fa8a8f9bc02875d9d2eb851a0b036e424846d9", func := "loop.example/lib-g01197/laws.FnEqualSums", spec := "fnEqualSums", inPlace := ["crypto/internal/fips140/alias.AnyOverlap", "crypto/internal/fips140/subtle.xorBytes", "crypto/internal/fips140/sha3.keccakF1600", "crypto/internal/fips140.getIndicator", "crypto/internal/fips140.setIndicator", "crypto/internal/constanttime.boolToUint8"], apart := false }
def FnEqualSumsSaid : Prop := fnEqualSumsRow.holds Try.pinned (OpenSpec.ofChange fnEqualSumsSpec)

/-- ITS FALSE NEIGHBOUR: 'it returns false'. Refute it at one input. -/
def fnEqualSumsWrong : ChangeSpec := { name := "fnEqualSums", fn := fun _ => fun
  | [d1, d2] => { results := [.lit (.bool false)], args := [d1, d2] }
  | _ => none }
def FnEqualSumsWrongFalsely : Prop := fnEqualSumsRow.holds Try.pinned (OpenSpec.ofChange fnEqualSumsWrong)

/-- 'laws.FnExactRunHashes': WHATEVER THE INPUT: true; the input reads as it did. -/
def fnExactRunHashesSpec : ChangeSpec := { name := "fnExactRunHashes", fn := fun _ => fun
  | [d1, d2] => { results := [.lit (.bool true)], args := [d1, d2] }
  | _ => none }
def fnExactRunHashesRow : OpenClaim := { program := "ytfgfhdkedmgfiaa", sum := "8086c4720286f749421aafac89fa8a8f9bc02875d9d2eb851a0b036e424846d9", func := "loop.example/lib-g01197/laws.FnExactRunHashes", spec := "fnExactRunHashes", inPlace := ["crypto/internal/fips140/alias.AnyOverlap", "crypto/internal/fips140/subtle.xorBytes", "crypto/internal/fips140/sha3.keccakF1600", "crypto/internal/fips140.getIndicator", "crypto/internal/fips140.setIndicator"], apart := false }
def FnExactRunHashesSaid : Prop := fnExactRunHashesRow.holds Try.pinned (OpenSpec.ofChange fnExactRunHashesSpec)

/-- ITS FALSE NEIGHBOUR: 'it returns false'. Refute it at one input. -/
def fnExactRunHashesWrong : ChangeSpec := { name := "fnExactRunHashes", fn := fun _ => fun
  | [d1, d2] => { results := [.lit (.bool false)], args := [d1, d2] }
  | _ => none }
def FnExactRunHashesWrongFalsely : Prop := fnExactRunHashesRow.holds Try.pinned (OpenSpec.ofChange fnExactRunHashesWrong)

/-- 'laws.FnSumAppends': WHATEVER THE INPUT: true; the input reads as it did. -/
def fnSumAppendsSpec : ChangeSpec := { name := "fnSumAppends", fn := fun _ => fun
  | [d1, d2, d3] => { results := [.lit (.bool true)], args := [d1, d2, d3] }
  | _ => none }
def fnSumAppendsRow : OpenClaim := { program := "ytfgfhdkedmgfiaa", sum := "8086c4720286f749421aafac89fa8a8f9bc02875d9d2eb851a0b036e424846d9", func := "loop.example/lib-g01197/laws.FnSumAppends", spec := "fnSumAppends", inPlace := ["crypto/internal/fips140/alias.AnyOverlap", "crypto/internal/fips140/subtle.xorBytes", "crypto/internal/fips140/sha3.keccakF1600", "crypto/internal/fips140.getIndicator", "crypto/internal/fips140.setIndicator"], apart := false }
def FnSumAppendsSaid : Prop := fnSumAppendsRow.holds Try.pinned (OpenSpec.ofChange fnSumAppendsSpec)

/-- ITS FALSE NEIGHBOUR: 'it returns false'. Refute it at one input. -/
def fnSumAppendsWrong : ChangeSpec := { name := "fnSumAppends", fn := fun _ => fun
  | [d1, d2, d3] => { results := [.lit (.bool false)], args := [d1, d2, d3] }
  | _ => none }
def FnSumAppendsWrongFalsely : Prop := fnSumAppendsRow.holds Try.pinned (OpenSpec.ofChange fnSumAppendsWrong)

/-- 'laws.FnResetTwice': WHATEVER THE INPUT: true; the input reads as it did. -/
def fnResetTwiceSpec : ChangeSpec := { name := "fnResetTwice", fn := fun _ => fun
  | [d1, d2] => { results := [.lit (.bool true)], args := [d1, d2] }
  | _ => none }
def fnResetTwiceRow : OpenClaim := { program := "ytfgfhdkedmgfiaa", sum := "8086c4720286f749421aafac89fa8a8f9bc02875d9d2eb851a0b036e424846d9", func := "loop.example/lib-g01197/laws.FnResetTwice", spec := "fnResetTwice", inPlace := ["crypto/internal/fips140/alias.AnyOverlap", "crypto/internal/fips140/subtle.xorBytes", "crypto/internal/fips140/sha3.keccakF1600", "crypto/internal/fips140.getIndicator", "crypto/internal/fips140.setIndicator"], apart := false }
def FnResetTwiceSaid : Prop := fnResetTwiceRow.holds Try.pinned (OpenSpec.ofChange fnResetTwiceSpec)

/-- ITS FALSE NEIGHBOUR: 'it returns false'. Refute it at one input. -/
def fnResetTwiceWrong : ChangeSpec := { name := "fnResetTwice", fn := fun _ => fun
  | [d1, d2] => { results := [.lit (.bool false)], args := [d1, d2] }
  | _ => none }
def FnResetTwiceWrongFalsely : Prop := fnResetTwiceRow.holds Try.pinned (OpenSpec.ofChange fnResetTwiceWrong)

/- THE SECOND FORM. 'bulk': how many values and letters a reading holds, each counted each time it is reached (what is shared counts as often as it is met; a slice's spare places count too). A statement '..UptoSaid' is the law's where the arguments, and the package variables that the reading takes, are together of bulk at most 1048576: NARROWER than '..Said'. Prove '..Said' where nothing that the law and all that it calls make is longer than what came in: it says more and counts as full. Else prove '..UptoSaid'. A law counts once. -/
mutual
def uptoBulk {H : Type} : DataW H → Nat
  | .lit (.string bytes) => bytes.length + 1
  | .lit _ => 1
  | .nil => 1
  | .ptr d => uptoBulk d + 1
  | .slice elems spare => uptoBulkAll elems + uptoBulkAll spare + 1
  | .agg parts => uptoBulkAll parts + 1
  | .iface _ d => uptoBulk d + 1
  | .map entries => uptoBulkEntries entries + 1
  | .held _ => 1
def uptoBulkAll {H : Type} : List (DataW H) → Nat
  | [] => 0
  | d :: r => uptoBulk d + uptoBulkAll r
def uptoBulkEntries {H : Type} : List (Lit × DataW H) → Nat
  | [] => 0
  | x :: r => uptoBulkEntry x + uptoBulkEntries r
def uptoBulkEntry {H : Type} : Lit × DataW H → Nat
  | (.string bytes, d) => bytes.length + uptoBulk d + 1
  | (_, d) => uptoBulk d + 1
 end
def uptoSmall : (H : Type) → List (DataW H) → Bool := fun _ ds => decide (uptoBulkAll ds ≤ 1048576)
def OpenSpec.upto (s : _root_.Go.ChangeSpec) : _root_.Go.OpenSpec := { _root_.Go.OpenSpec.ofChange s with cond := some uptoSmall }

/-- 'laws.FnSavesAndClones', WHERE WHAT IT READS IS OF BULK AT MOST 1048576: true; the input reads as it did. -/
def fnSavesAndClonesUptoRow : OpenClaim := { program := "ytfgfhdkedmgfiaa", sum := "8086c4720286f749421aafac89fa8a8f9bc02875d9d2eb851a0b036e424846d9", func := "loop.example/lib-g01197/laws.FnSavesAndClones", spec := "fnSavesAndClones", inPlace := ["crypto/internal/fips140/alias.AnyOverlap", "crypto/internal/fips140/subtle.xorBytes", "crypto/internal/fips140/sha3.keccakF1600", "crypto/internal/fips140.getIndicator", "crypto/internal/fips140.setIndicator"], apart := false, narrowed := true }
def FnSavesAndClonesUptoSaid : Prop := fnSavesAndClonesUptoRow.holds Try.pinned (OpenSpec.upto fnSavesAndClonesSpec)

/-- 'laws.FnCutWrites', WHERE WHAT IT READS IS OF BULK AT MOST 1048576: true; the input reads as it did. -/
def fnCutWritesUptoRow : OpenClaim := { program := "ytfgfhdkedmgfiaa", sum := "8086c4720286f749421aafac89fa8a8f9bc02875d9d2eb851a0b036e424846d9", func := "loop.example/lib-g01197/laws.FnCutWrites", spec := "fnCutWrites", inPlace := ["crypto/internal/fips140/alias.AnyOverlap", "crypto/internal/fips140/subtle.xorBytes", "crypto/internal/fips140/sha3.keccakF1600", "crypto/internal/fips140.getIndicator", "crypto/internal/fips140.setIndicator"], apart := false, narrowed := true }
def FnCutWritesUptoSaid : Prop := fnCutWritesUptoRow.holds Try.pinned (OpenSpec.upto fnCutWritesSpec)

/-- 'laws.FnZeroHash', WHERE WHAT IT READS IS OF BULK AT MOST 1048576: true; the input reads as it did. -/
def fnZeroHashUptoRow : OpenClaim := { program := "ytfgfhdkedmgfiaa", sum := "8086c4720286f749421aafac89fa8a8f9bc02875d9d2eb851a0b036e424846d9", func := "loop.example/lib-g01197/laws.FnZeroHash", spec := "fnZeroHash", inPlace := ["crypto/internal/fips140/alias.AnyOverlap", "crypto/internal/fips140/subtle.xorBytes", "crypto/internal/fips140/sha3.keccakF1600", "crypto/internal/fips140.getIndicator", "crypto/internal/fips140.setIndicator"], apart := false, narrowed := true }
def FnZeroHashUptoSaid : Prop := fnZeroHashUptoRow.holds Try.pinned (OpenSpec.upto fnZeroHashSpec)

/-- 'laws.FnCutsAgree', WHERE WHAT IT READS IS OF BULK AT MOST 1048576: true; the input reads as it did. -/
def fnCutsAgreeUptoRow : OpenClaim := { program := "ytfgfhdkedmgfiaa", sum := "8086c4720286f749421aafac89fa8a8f9bc02875d9d2eb851a0b036e424846d9", func := "loop.example/lib-g01197/laws.FnCutsAgree", spec := "fnCutsAgree", inPlace := ["crypto/internal/fips140/alias.AnyOverlap", "crypto/internal/fips140/subtle.xorBytes", "crypto/internal/fips140/sha3.keccakF1600", "crypto/internal/fips140.getIndicator", "crypto/internal/fips140.setIndicator"], apart := false, narrowed := true }
def FnCutsAgreeUptoSaid : Prop := fnCutsAgreeUptoRow.holds Try.pinned (OpenSpec.upto fnCutsAgreeSpec)

/-- 'laws.FnEqualSums', WHERE WHAT IT READS IS OF BULK AT MOST 1048576: true; the input reads as it did. -/
def fnEqualSumsUptoRow : OpenClaim := { program := "ytfgfhdkedmgfiaa", sum := "8086c4720286f749421aafac89fa8a8f9bc02875d9d2eb851a0b036e424846d9", func := "loop.example/lib-g01197/laws.FnEqualSums", spec := "fnEqualSums", inPlace := ["crypto/internal/fips140/alias.AnyOverlap", "crypto/internal/fips140/subtle.xorBytes", "crypto/internal/fips140/sha3.keccakF1600", "crypto/internal/fips140.getIndicator", "crypto/internal/fips140.setIndicator", "crypto/internal/constanttime.boolToUint8"], apart := false, narrowed := true }
def FnEqualSumsUptoSaid : Prop := fnEqualSumsUptoRow.holds Try.pinned (OpenSpec.upto fnEqualSumsSpec)

/-- 'laws.FnExactRunHashes', WHERE WHAT IT READS IS OF BULK AT MOST 1048576: true; the input reads as it did. -/
def fnExactRunHashesUptoRow : OpenClaim := { program := "ytfgfhdkedmgfiaa", sum := "8086c4720286f749421aafac89fa8a8f9bc02875d9d2eb851a0b036e424846d9", func := "loop.example/lib-g01197/laws.FnExactRunHashes", spec := "fnExactRunHashes", inPlace := ["crypto/internal/fips140/alias.AnyOverlap", "crypto/internal/fips140/subtle.xorBytes", "crypto/internal/fips140/sha3.keccakF1600", "crypto/internal/fips140.getIndicator", "crypto/internal/fips140.setIndicator"], apart := false, narrowed := true }
def FnExactRunHashesUptoSaid : Prop := fnExactRunHashesUptoRow.holds Try.pinned (OpenSpec.upto fnExactRunHashesSpec)

/-- 'laws.FnSumAppends', WHERE WHAT IT READS IS OF BULK AT MOST 1048576: true; the input reads as it did. -/
def fnSumAppendsUptoRow : OpenClaim := { program := "ytfgfhdkedmgfiaa", sum := "8086c4720286f749421aafac89fa8a8f9bc02875d9d2eb851a0b036e424846d9", func := "loop.example/lib-g01197/laws.FnSumAppends", spec := "fnSumAppends", inPlace := ["crypto/internal/fips140/alias.AnyOverlap", "crypto/internal/fips140/subtle.xorBytes", "crypto/internal/fips140/sha3.keccakF1600", "crypto/internal/fips140.getIndicator", "crypto/internal/fips140.setIndicator"], apart := false, narrowed := true }
def FnSumAppendsUptoSaid : Prop := fnSumAppendsUptoRow.holds Try.pinned (OpenSpec.upto fnSumAppendsSpec)

/-- 'laws.FnResetTwice', WHERE WHAT IT READS IS OF BULK AT MOST 1048576: true; the input reads as it did. -/
def fnResetTwiceUptoRow : OpenClaim := { program := "ytfgfhdkedmgfiaa", sum := "8086c4720286f749421aafac89fa8a8f9bc02875d9d2eb851a0b036e424846d9", func := "loop.example/lib-g01197/laws.FnResetTwice", spec := "fnResetTwice", inPlace := ["crypto/internal/fips140/alias.AnyOverlap", "crypto/internal/fips140/subtle.xorBytes", "crypto/internal/fips140/sha3.keccakF1600", "crypto/internal/fips140.getIndicator", "crypto/internal/fips140.setIndicator"], apart := false, narrowed := true }
def FnResetTwiceUptoSaid : Prop := fnResetTwiceUptoRow.holds Try.pinned (OpenSpec.upto fnResetTwiceSpec)

end Rows
end Go.Proofs.Ytfgfhdkedmgfiaa
