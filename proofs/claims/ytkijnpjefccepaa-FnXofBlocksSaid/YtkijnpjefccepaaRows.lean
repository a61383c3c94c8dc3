/-
  No cell of these rows narrows 'for every input' (looked for: loops, veiled, ifaces, maps, wideKeys, modest, calm, conditions, laid).
  DERIVED. THE GIVEN ROWS OF THIS SEAT. 12 by the template 'for every input the law returns true; each argument reads behind the call as it read before'; 0 by the template 'total and deterministic' (their statements: YtkijnpjefccepaaTotals.lean).
  GIVEN WITH THE SEED: the statements are not yours to turn. If you find one false, say at which input.
  Laid BY PROGRAM, IN A SANDBOX (cutbox-rows.mjs): the forced cells as the released guide's own fill.sh prints them over the translation a87b75925ec972f8… (all of the seat's roots in one cut). By AI agents, Wed Nov 11 2026. No macro, syntax, notation, axiom, sorry.
-/
import Derived.Test.YtkijnpjefccepaaChecked
import GoSem.Claim
import GoSem.ClaimJoined
import GoSem.ClaimMapViews
import Derived.JoinedTies
import Derived.KernelRfl
namespace Go.Proofs.Ytkijnpjefccepaa
/- THE CELL 'sum', in the pinned program and in every row, IS THE sha256 OF THE DUMP (.gsa) THAT YtkijnpjefccepaaProg.lean LOADS. Nothing in Lean hashes anything: it is a label: what it is worth is what the hold of that sum in a sandbox is worth. -/
noncomputable def Try.pinned : Pinned := { name := "ytkijnpjefccepaa", sum := "a87b75925ec972f8d55ab1074ec81bb3bc4f4942a2d426352e90dc3149930d04", checked := Try.checked }
namespace Rows
def none {H : Type} : Left H := { results := [], args := [] }

/-- 'laws.FnXofCutReads': WHATEVER THE INPUT: true; the input reads as it did. -/
def fnXofCutReadsSpec : ChangeSpec := { name := "fnXofCutReads", fn := fun _ => fun
  | [d1, d2, d3, d4, d5, d6] => { results := [.lit (.bool true)], args := [d1, d2, d3, d4, d5, d6] }
  | _ => none }
def fnXofCutReadsRow : OpenClaim := { program := "ytkijnpjefccepaa", sum := "a87b75925ec972f8d55ab1074ec81bb3bc4f4942a2d426352e90dc3149930d04", func := "loop.example/lib-g01197/laws.FnXofCutReads", spec := "fnXofCutReads", inPlace := ["crypto/internal/fips140/alias.AnyOverlap", "crypto/internal/fips140/subtle.xorBytes", "crypto/internal/fips140/sha3.keccakF1600", "crypto/internal/fips140.getIndicator", "crypto/internal/fips140.setIndicator"], unfollowed := true, recurses := true, apart := false }
def FnXofCutReadsSaid : Prop := fnXofCutReadsRow.holds Try.pinned (OpenSpec.ofChange fnXofCutReadsSpec)

/-- ITS FALSE NEIGHBOUR: 'it returns false'. Refute it at one input. -/
def fnXofCutReadsWrong : ChangeSpec := { name := "fnXofCutReads", fn := fun _ => fun
  | [d1, d2, d3, d4, d5, d6] => { results := [.lit (.bool false)], args := [d1, d2, d3, d4, d5, d6] }
  | _ => none }
def FnXofCutReadsWrongFalsely : Prop := fnXofCutReadsRow.holds Try.pinned (OpenSpec.ofChange fnXofCutReadsWrong)

/-- 'laws.FnXofPanics': WHATEVER THE INPUT: true; the input reads as it did. -/
def fnXofPanicsSpec : ChangeSpec := { name := "fnXofPanics", fn := fun _ => fun
  | [d1, d2, d3, d4, d5, d6] => { results := [.lit (.bool true)], args := [d1, d2, d3, d4, d5, d6] }
  | _ => none }
def fnXofPanicsRow : OpenClaim := { program := "ytkijnpjefccepaa", sum := "a87b75925ec972f8d55ab1074ec81bb3bc4f4942a2d426352e90dc3149930d04", func := "loop.example/lib-g01197/laws.FnXofPanics", spec := "fnXofPanics", inPlace := ["crypto/internal/fips140/alias.AnyOverlap", "crypto/internal/fips140/subtle.xorBytes", "crypto/internal/fips140/sha3.keccakF1600", "crypto/internal/fips140.getIndicator", "crypto/internal/fips140.setIndicator"], unfollowed := true, recurses := true, apart := false }
def FnXofPanicsSaid : Prop := fnXofPanicsRow.holds Try.pinned (OpenSpec.ofChange fnXofPanicsSpec)

/-- ITS FALSE NEIGHBOUR: 'it returns false'. Refute it at one input. -/
def fnXofPanicsWrong : ChangeSpec := { name := "fnXofPanics", fn := fun _ => fun
  | [d1, d2, d3, d4, d5, d6] => { results := [.lit (.bool false)], args := [d1, d2, d3, d4, d5, d6] }
  | _ => none }
def FnXofPanicsWrongFalsely : Prop := fnXofPanicsRow.holds Try.pinned (OpenSpec.ofChange fnXofPanicsWrong)

/-- 'laws.FnXofBlocks': WHATEVER THE INPUT: true; the input reads as it did. -/
def fnXofBlocksSpec : ChangeSpec := { name := "fnXofBlocks", fn := fun _ => fun
  | [d1, d2, d3, d4] => { results := [.lit (.bool true)], args := [d1, d2, d3, d4] }
  | _ => none }
def fnXofBlocksRow : OpenClaim := { program := "ytkijnpjefccepaa", sum := "a87b75925ec972f8d55ab1074ec81bb3bc4f4942a2d426352e90dc3149930d04", func := "loop.example/lib-g01197/laws.FnXofBlocks", spec := "fnXofBlocks", inPlace := ["crypto/internal/fips140/alias.AnyOverlap", "crypto/internal/fips140/subtle.xorBytes", "crypto/internal/fips140/sha3.keccakF1600", "crypto/internal/fips140.getIndicator", "crypto/internal/fips140.setIndicator"], unfollowed := true, recurses := true, apart := false }
def FnXofBlocksSaid : Prop := fnXofBlocksRow.holds Try.pinned (OpenSpec.ofChange fnXofBlocksSpec)

/-- ITS FALSE NEIGHBOUR: 'it returns false'. Refute it at one input. -/
def fnXofBlocksWrong : ChangeSpec := { name := "fnXofBlocks", fn := fun _ => fun
  | [d1, d2, d3, d4] => { results := [.lit (.bool false)], args := [d1, d2, d3, d4] }
  | _ => none }
def FnXofBlocksWrongFalsely : Prop := fnXofBlocksRow.holds Try.pinned (OpenSpec.ofChange fnXofBlocksWrong)

/-- 'laws.FnOutputsOfLoaded': WHATEVER THE INPUT: true; the input reads as it did. -/
def fnOutputsOfLoadedSpec : ChangeSpec := { name := "fnOutputsOfLoaded", fn := fun _ => fun
  | [d1, d2, d3, d4, d5] => { results := [.lit (.bool true)], args := [d1, d2, d3, d4, d5] }
  | _ => none }
def fnOutputsOfLoadedRow : OpenClaim := { program := "ytkijnpjefccepaa", sum := "a87b75925ec972f8d55ab1074ec81bb3bc4f4942a2d426352e90dc3149930d04", func := "loop.example/lib-g01197/laws.FnOutputsOfLoaded", spec := "fnOutputsOfLoaded", inPlace := ["crypto/internal/fips140/alias.AnyOverlap", "crypto/internal/fips140/subtle.xorBytes", "crypto/internal/fips140/sha3.keccakF1600", "crypto/internal/fips140.getIndicator", "crypto/internal/fips140.setIndicator"], unfollowed := true, recurses := true, apart := false }
def FnOutputsOfLoadedSaid : Prop := fnOutputsOfLoadedRow.holds Try.pinned (OpenSpec.ofChange fnOutputsOfLoadedSpec)

/-- ITS FALSE NEIGHBOUR: 'it returns false'. Refute it at one input. -/
def fnOutputsOfLoadedWrong : ChangeSpec := { name := "fnOutputsOfLoaded", fn := fun _ => fun
  | [d1, d2, d3, d4, d5] => { results := [.lit (.bool false)], args := [d1, d2, d3, d4, d5] }
  | _ => none }
def FnOutputsOfLoadedWrongFalsely : Prop := fnOutputsOfLoadedRow.holds Try.pinned (OpenSpec.ofChange fnOutputsOfLoadedWrong)

/-- 'laws.FnXofZero': WHATEVER THE INPUT: true; the input reads as it did. -/
def fnXofZeroSpec : ChangeSpec := { name := "fnXofZero", fn := fun _ => fun
  | [d] => { results := [.lit (.bool true)], args := [d] }
  | _ => none }
def fnXofZeroRow : OpenClaim := { program := "ytkijnpjefccepaa", sum := "a87b75925ec972f8d55ab1074ec81bb3bc4f4942a2d426352e90dc3149930d04", func := "loop.example/lib-g01197/laws.FnXofZero", spec := "fnXofZero", inPlace := ["crypto/internal/fips140/alias.AnyOverlap", "crypto/internal/fips140/subtle.xorBytes", "crypto/internal/fips140/sha3.keccakF1600", "crypto/internal/fips140.getIndicator", "crypto/internal/fips140.setIndicator"], unfollowed := true, recurses := true, apart := false }
def FnXofZeroSaid : Prop := fnXofZeroRow.holds Try.pinned (OpenSpec.ofChange fnXofZeroSpec)

/-- ITS FALSE NEIGHBOUR: 'it returns false'. Refute it at one input. -/
def fnXofZeroWrong : ChangeSpec := { name := "fnXofZero", fn := fun _ => fun
  | [d] => { results := [.lit (.bool false)], args := [d] }
  | _ => none }
def FnXofZeroWrongFalsely : Prop := fnXofZeroRow.holds Try.pinned (OpenSpec.ofChange fnXofZeroWrong)

/-- 'laws.FnXofPlain': WHATEVER THE INPUT: true; the input reads as it did. -/
def fnXofPlainSpec : ChangeSpec := { name := "fnXofPlain", fn := fun _ => fun
  | [d] => { results := [.lit (.bool true)], args := [d] }
  | _ => none }
def fnXofPlainRow : OpenClaim := { program := "ytkijnpjefccepaa", sum := "a87b75925ec972f8d55ab1074ec81bb3bc4f4942a2d426352e90dc3149930d04", func := "loop.example/lib-g01197/laws.FnXofPlain", spec := "fnXofPlain", inPlace := ["crypto/internal/fips140/alias.AnyOverlap", "crypto/internal/fips140/subtle.xorBytes", "crypto/internal/fips140/sha3.keccakF1600", "crypto/internal/fips140.getIndicator", "crypto/internal/fips140.setIndicator"], unfollowed := true, recurses := true, apart := false }
def FnXofPlainSaid : Prop := fnXofPlainRow.holds Try.pinned (OpenSpec.ofChange fnXofPlainSpec)

/-- ITS FALSE NEIGHBOUR: 'it returns false'. Refute it at one input. -/
def fnXofPlainWrong : ChangeSpec := { name := "fnXofPlain", fn := fun _ => fun
  | [d] => { results := [.lit (.bool false)], args := [d] }
  | _ => none }
def FnXofPlainWrongFalsely : Prop := fnXofPlainRow.holds Try.pinned (OpenSpec.ofChange fnXofPlainWrong)

/-- 'laws.FnCustom128': WHATEVER THE INPUT: true; the input reads as it did. -/
def fnCustom128Spec : ChangeSpec := { name := "fnCustom128", fn := fun _ => fun
  | [d1, d2, d3, d4] => { results := [.lit (.bool true)], args := [d1, d2, d3, d4] }
  | _ => none }
def fnCustom128Row : OpenClaim := { program := "ytkijnpjefccepaa", sum := "a87b75925ec972f8d55ab1074ec81bb3bc4f4942a2d426352e90dc3149930d04", func := "loop.example/lib-g01197/laws.FnCustom128", spec := "fnCustom128", inPlace := ["crypto/internal/fips140/alias.AnyOverlap", "crypto/internal/fips140/subtle.xorBytes", "crypto/internal/fips140/sha3.keccakF1600", "crypto/internal/fips140.getIndicator", "crypto/internal/fips140.setIndicator"], unfollowed := true, recurses := true, apart := false }
def FnCustom128Said : Prop := fnCustom128Row.holds Try.pinned (OpenSpec.ofChange fnCustom128Spec)

/-- ITS FALSE NEIGHBOUR: 'it returns false'. Refute it at one input. -/
def fnCustom128Wrong : ChangeSpec := { name := "fnCustom128", fn := fun _ => fun
  | [d1, d2, d3, d4] => { results := [.lit (.bool false)], args := [d1, d2, d3, d4] }
  | _ => none }
def FnCustom128WrongFalsely : Prop := fnCustom128Row.holds Try.pinned (OpenSpec.ofChange fnCustom128Wrong)

/-- 'laws.FnCustom256': WHATEVER THE INPUT: true; the input reads as it did. -/
def fnCustom256Spec : ChangeSpec := { name := "fnCustom256", fn := fun _ => fun
  | [d1, d2, d3, d4] => { results := [.lit (.bool true)], args := [d1, d2, d3, d4] }
  | _ => none }
def fnCustom256Row : OpenClaim := { program := "ytkijnpjefccepaa", sum := "a87b75925ec972f8d55ab1074ec81bb3bc4f4942a2d426352e90dc3149930d04", func := "loop.example/lib-g01197/laws.FnCustom256", spec := "fnCustom256", inPlace := ["crypto/internal/fips140/alias.AnyOverlap", "crypto/internal/fips140/subtle.xorBytes", "crypto/internal/fips140/sha3.keccakF1600", "crypto/internal/fips140.getIndicator", "crypto/internal/fips140.setIndicator"], unfollowed := true, recurses := true, apart := false }
def FnCustom256Said : Prop := fnCustom256Row.holds Try.pinned (OpenSpec.ofChange fnCustom256Spec)

/-- ITS FALSE NEIGHBOUR: 'it returns false'. Refute it at one input. -/
def fnCustom256Wrong : ChangeSpec := { name := "fnCustom256", fn := fun _ => fun
  | [d1, d2, d3, d4] => { results := [.lit (.bool false)], args := [d1, d2, d3, d4] }
  | _ => none }
def FnCustom256WrongFalsely : Prop := fnCustom256Row.holds Try.pinned (OpenSpec.ofChange fnCustom256Wrong)

/-- 'laws.FnTwoXofs': WHATEVER THE INPUT: true; the input reads as it did. -/
def fnTwoXofsSpec : ChangeSpec := { name := "fnTwoXofs", fn := fun _ => fun
  | [d1, d2, d3, d4, d5, d6] => { results := [.lit (.bool true)], args := [d1, d2, d3, d4, d5, d6] }
  | _ => none }
def fnTwoXofsRow : OpenClaim := { program := "ytkijnpjefccepaa", sum := "a87b75925ec972f8d55ab1074ec81bb3bc4f4942a2d426352e90dc3149930d04", func := "loop.example/lib-g01197/laws.FnTwoXofs", spec := "fnTwoXofs", inPlace := ["crypto/internal/fips140/alias.AnyOverlap", "crypto/internal/fips140/subtle.xorBytes", "crypto/internal/fips140/sha3.keccakF1600", "crypto/internal/fips140.getIndicator", "crypto/internal/fips140.setIndicator"], unfollowed := true, recurses := true, apart := false }
def FnTwoXofsSaid : Prop := fnTwoXofsRow.holds Try.pinned (OpenSpec.ofChange fnTwoXofsSpec)

/-- ITS FALSE NEIGHBOUR: 'it returns false'. Refute it at one input. -/
def fnTwoXofsWrong : ChangeSpec := { name := "fnTwoXofs", fn := fun _ => fun
  | [d1, d2, d3, d4, d5, d6] => { results := [.lit (.bool false)], args := [d1, d2, d3, d4, d5, d6] }
  | _ => none }
def FnTwoXofsWrongFalsely : Prop := fnTwoXofsRow.holds Try.pinned (OpenSpec.ofChange fnTwoXofsWrong)

/-- 'laws.FnXofAppendsState': WHATEVER THE INPUT: true; the input reads as it did. -/
def fnXofAppendsStateSpec : ChangeSpec := { name := "fnXofAppendsState", fn := fun _ => fun
  | [d1, d2, d3, d4, d5, d6] => { results := [.lit (.bool true)], args := [d1, d2, d3, d4, d5, d6] }
  | _ => none }
def fnXofAppendsStateRow : OpenClaim := { program := "ytkijnpjefccepaa", sum := "a87b75925ec972f8d55ab1074ec81bb3bc4f4942a2d426352e90dc3149930d04", func := "loop.example/lib-g01197/laws.FnXofAppendsState", spec := "fnXofAppendsState", inPlace := ["crypto/internal/fips140/alias.AnyOverlap", "crypto/internal/fips140/subtle.xorBytes", "crypto/internal/fips140/sha3.keccakF1600", "crypto/internal/fips140.getIndicator", "crypto/internal/fips140.setIndicator"], unfollowed := true, recurses := true, apart := false }
def FnXofAppendsStateSaid : Prop := fnXofAppendsStateRow.holds Try.pinned (OpenSpec.ofChange fnXofAppendsStateSpec)

/-- ITS FALSE NEIGHBOUR: 'it returns false'. Refute it at one input. -/
def fnXofAppendsStateWrong : ChangeSpec := { name := "fnXofAppendsState", fn := fun _ => fun
  | [d1, d2, d3, d4, d5, d6] => { results := [.lit (.bool false)], args := [d1, d2, d3, d4, d5, d6] }
  | _ => none }
def FnXofAppendsStateWrongFalsely : Prop := fnXofAppendsStateRow.holds Try.pinned (OpenSpec.ofChange fnXofAppendsStateWrong)

/-- 'laws.FnXofEmptyWrites': WHATEVER THE INPUT: true; the input reads as it did. -/
def fnXofEmptyWritesSpec : ChangeSpec := { name := "fnXofEmptyWrites", fn := fun _ => fun
  | [d1, d2, d3, d4, d5, d6] => { results := [.lit (.bool true)], args := [d1, d2, d3, d4, d5, d6] }
  | _ => none }
def fnXofEmptyWritesRow : OpenClaim := { program := "ytkijnpjefccepaa", sum := "a87b75925ec972f8d55ab1074ec81bb3bc4f4942a2d426352e90dc3149930d04", func := "loop.example/lib-g01197/laws.FnXofEmptyWrites", spec := "fnXofEmptyWrites", inPlace := ["crypto/internal/fips140/alias.AnyOverlap", "crypto/internal/fips140/subtle.xorBytes", "crypto/internal/fips140/sha3.keccakF1600", "crypto/internal/fips140.getIndicator", "crypto/internal/fips140.setIndicator"], unfollowed := true, recurses := true, apart := false }
def FnXofEmptyWritesSaid : Prop := fnXofEmptyWritesRow.holds Try.pinned (OpenSpec.ofChange fnXofEmptyWritesSpec)

/-- ITS FALSE NEIGHBOUR: 'it returns false'. Refute it at one input. -/
def fnXofEmptyWritesWrong : ChangeSpec := { name := "fnXofEmptyWrites", fn := fun _ => fun
  | [d1, d2, d3, d4, d5, d6] => { results := [.lit (.bool false)], args := [d1, d2, d3, d4, d5, d6] }
  | _ => none }
def FnXofEmptyWritesWrongFalsely : Prop := fnXofEmptyWritesRow.holds Try.pinned (OpenSpec.ofChange fnXofEmptyWritesWrong)

/-- 'laws.FnXofResets': WHATEVER THE INPUT: true; the input reads as it did. -/
def fnXofResetsSpec : ChangeSpec := { name := "fnXofResets", fn := fun _ => fun
  | [d1, d2, d3, d4, d5, d6] => { results := [.lit (.bool true)], args := [d1, d2, d3, d4, d5, d6] }
  | _ => none }
def fnXofResetsRow : OpenClaim := { program := "ytkijnpjefccepaa", sum := "a87b75925ec972f8d55ab1074ec81bb3bc4f4942a2d426352e90dc3149930d04", func := "loop.example/lib-g01197/laws.FnXofResets", spec := "fnXofResets", inPlace := ["crypto/internal/fips140/alias.AnyOverlap", "crypto/internal/fips140/subtle.xorBytes", "crypto/internal/fips140/sha3.keccakF1600", "crypto/internal/fips140.getIndicator", "crypto/internal/fips140.setIndicator"], unfollowed := true, recurses := true, apart := false }
def FnXofResetsSaid : Prop := fnXofResetsRow.holds Try.pinned (OpenSpec.ofChange fnXofResetsSpec)

/-- ITS FALSE NEIGHBOUR: 'it returns false'. Refute it at one input. -/
def fnXofResetsWrong : ChangeSpec := { name := "fnXofResets", fn := fun _ => fun
  | [d1, d2, d3, d4, d5, d6] => { results := [.lit (.bool false)], args := [d1, d2, d3, d4, d5, d6] }
  | _ => none }
def FnXofResetsWrongFalsely : Prop := fnXofResetsRow.holds Try.pinned (OpenSpec.ofChange fnXofResetsWrong)

/- THE SECOND FORM. 'bulk': how many values and letters a reading holds, each counted each time it is reached (what is shared counts as often as it is met; a slice's spare places count too). A statement '..UptoSaid' is the law's where the arguments, and the package variables that the reading takes, are together of bulk at most 1048576: NARROWER than '..Said'. Prove '..Said' where nothing that the law and all that it calls make is longer than what came in: it says more and counts as full. Else prove '..UptoSaid'. A law counts once. -/
mutual
def uptoBulk {H : Type} : DataW H → Nat
  | .lit (.string bytes) => bytes.length + 1
  | .lit _ => 1
  | .nil => 1
  | .ptr d => uptoBulk d + 1
  | .slice elems spare => uptoBulkAll elems + uptoBulkAll spare + 1
  | .agg parts => uptoBulkAll parts + 1
  | .iface _ d => uptoBulk d + 1
  | .map entries => uptoBulkEntries entries + 1
  | .held _ => 1
def uptoBulkAll {H : Type} : List (DataW H) → Nat
  | [] => 0
  | d :: r => uptoBulk d + uptoBulkAll r
def uptoBulkEntries {H : Type} : List (Lit × DataW H) → Nat
  | [] => 0
  | x :: r => uptoBulkEntry x + uptoBulkEntries r
def uptoBulkEntry {H : Type} : Lit × DataW H → Nat
  | (.string bytes, d) => bytes.length + uptoBulk d + 1
  | (_, d) => uptoBulk d + 1
 end
def uptoSmall : (H : Type) → List (DataW H) → Bool := fun _ ds => decide (uptoBulkAll ds ≤ 1048576)
def OpenSpec.upto (s : _root_.Go.ChangeSpec) : _root_.Go.OpenSpec := { _root_.Go.OpenSpec.ofChange s with cond := some uptoSmall }

/-- 'laws.FnXofCutReads', WHERE WHAT IT READS IS OF BULK AT MOST 1048576: true; the input reads as it did. -/
def fnXofCutReadsUptoRow : OpenClaim := { program := "ytkijnpjefccepaa", sum := "a87b75925ec972f8d55ab1074ec81bb3bc4f4942a2d426352e90dc3149930d04", func := "loop.example/lib-g01197/laws.FnXofCutReads", spec := "fnXofCutReads", inPlace := ["crypto/internal/fips140/alias.AnyOverlap", "crypto/internal/fips140/subtle.xorBytes", "crypto/internal/fips140/sha3.keccakF1600", "crypto/internal/fips140.getIndicator", "crypto/internal/fips140.setIndicator"], unfollowed := true, recurses := true, apart := false, narrowed := true }
def FnXofCutReadsUptoSaid : Prop := fnXofCutReadsUptoRow.holds Try.pinned (OpenSpec.upto fnXofCutReadsSpec)

/-- 'laws.FnXofPanics', WHERE WHAT IT READS IS OF BULK AT MOST 1048576: true; the input reads as it did. -/
def fnXofPanicsUptoRow : OpenClaim := { program := "ytkijnpjefccepaa", sum := "a87b75925ec972f8d55ab1074ec81bb3bc4f4942a2d426352e90dc3149930d04", func := "loop.example/lib-g01197/laws.FnXofPanics", spec := "fnXofPanics", inPlace := ["crypto/internal/fips140/alias.AnyOverlap", "crypto/internal/fips140/subtle.xorBytes", "crypto/internal/fips140/sha3.keccakF1600", "crypto/internal/fips140.getIndicator", "crypto/internal/fips140.setIndicator"], unfollowed := true, recurses := true, apart := false, narrowed := true }
def FnXofPanicsUptoSaid : Prop := fnXofPanicsUptoRow.holds Try.pinned (OpenSpec.upto fnXofPanicsSpec)

/-- 'laws.FnXofBlocks', WHERE WHAT IT READS IS OF BULK AT MOST 1048576: true; the input reads as it did. -/
def fnXofBlocksUptoRow : OpenClaim := { program := "ytkijnpjefccepaa", sum := "a87b75925ec972f8d55ab1074ec81bb3bc4f4942a2d426352e90dc3149930d04", func := "loop.example/lib-g01197/laws.FnXofBlocks", spec := "fnXofBlocks", inPlace := ["crypto/internal/fips140/alias.AnyOverlap", "crypto/internal/fips140/subtle.xorBytes", "crypto/internal/fips140/sha3.keccakF1600", "crypto/internal/fips140.getIndicator", "crypto/internal/fips140.setIndicator"], unfollowed := true, recurses := true, apart := false, narrowed := true }
def FnXofBlocksUptoSaid : Prop := fnXofBlocksUptoRow.holds Try.pinned (OpenSpec.upto fnXofBlocksSpec)

/-- 'laws.FnOutputsOfLoaded', WHERE WHAT IT READS IS OF BULK AT MOST 1048576: true; the input reads as it did. -/
def fnOutputsOfLoadedUptoRow : OpenClaim := { program := "ytkijnpjefccepaa", sum := "a87b75925ec972f8d55ab1074ec81bb3bc4f4942a2d426352e90dc3149930d04", func := "loop.example/lib-g01197/laws.FnOutputsOfLoaded", spec := "fnOutputsOfLoaded", inPlace := ["crypto/internal/fips140/alias.AnyOverlap", "crypto/internal/fips140/subtle.xorBytes", "crypto/internal/fips140/sha3.keccakF1600", "crypto/internal/fips140.getIndicator", "crypto/internal/fips140.setIndicator"], unfollowed := true, recurses := true, apart := false, narrowed := true }
def FnOutputsOfLoadedUptoSaid : Prop := fnOutputsOfLoadedUptoRow.holds Try.pinned (OpenSpec.upto fnOutputsOfLoadedSpec)

/-- 'laws.FnXofZero', WHERE WHAT IT READS IS OF BULK AT MOST 1048576: true; the input reads as it did. -/
def fnXofZeroUptoRow : OpenClaim := { program := "ytkijnpjefccepaa", sum := "a87b75925ec972f8d55ab1074ec81bb3bc4f4942a2d426352e90dc3149930d04", func := "loop.example/lib-g01197/laws.FnXofZero", spec := "fnXofZero", inPlace := ["crypto/internal/fips140/alias.AnyOverlap", "crypto/internal/fips140/subtle.xorBytes", "crypto/internal/fips140/sha3.keccakF1600", "crypto/internal/fips140.getIndicator", "crypto/internal/fips140.setIndicator"], unfollowed := true, recurses := true, apart := false, narrowed := true }
def FnXofZeroUptoSaid : Prop := fnXofZeroUptoRow.holds Try.pinned (OpenSpec.upto fnXofZeroSpec)

/-- 'laws.FnXofPlain', WHERE WHAT IT READS IS OF BULK AT MOST 1048576: true; the input reads as it did. -/
def fnXofPlainUptoRow : OpenClaim := { program := "ytkijnpjefccepaa", sum := "a87b75925ec972f8d55ab1074ec81bb3bc4f4942a2d426352e90dc3149930d04", func := "loop.example/lib-g01197/laws.FnXofPlain", spec := "fnXofPlain", inPlace := ["crypto/internal/fips140/alias.AnyOverlap", "crypto/internal/fips140/subtle.xorBytes", "crypto/internal/fips140/sha3.keccakF1600", "crypto/internal/fips140.getIndicator", "crypto/internal/fips140.setIndicator"], unfollowed := true, recurses := true, apart := false, narrowed := true }
def FnXofPlainUptoSaid : Prop := fnXofPlainUptoRow.holds Try.pinned (OpenSpec.upto fnXofPlainSpec)

/-- 'laws.FnCustom128', WHERE WHAT IT READS IS OF BULK AT MOST 1048576: true; the input reads as it did. -/
def fnCustom128UptoRow : OpenClaim := { program := "ytkijnpjefccepaa", sum := "a87b75925ec972f8d55ab1074ec81bb3bc4f4942a2d426352e90dc3149930d04", func := "loop.example/lib-g01197/laws.FnCustom128", spec := "fnCustom128", inPlace := ["crypto/internal/fips140/alias.AnyOverlap", "crypto/internal/fips140/subtle.xorBytes", "crypto/internal/fips140/sha3.keccakF1600", "crypto/internal/fips140.getIndicator", "crypto/internal/fips140.setIndicator"], unfollowed := true, recurses := true, apart := false, narrowed := true }
def FnCustom128UptoSaid : Prop := fnCustom128UptoRow.holds Try.pinned (OpenSpec.upto fnCustom128Spec)

/-- 'laws.FnCustom256', WHERE WHAT IT READS IS OF BULK AT MOST 1048576: true; the input reads as it did. -/
def fnCustom256UptoRow : OpenClaim := { program := "ytkijnpjefccepaa", sum := "a87b75925ec972f8d55ab1074ec81bb3bc4f4942a2d426352e90dc3149930d04", func := "loop.example/lib-g01197/laws.FnCustom256", spec := "fnCustom256", inPlace := ["crypto/internal/fips140/alias.AnyOverlap", "crypto/internal/fips140/subtle.xorBytes", "crypto/internal/fips140/sha3.keccakF1600", "crypto/internal/fips140.getIndicator", "crypto/internal/fips140.setIndicator"], unfollowed := true, recurses := true, apart := false, narrowed := true }
def FnCustom256UptoSaid : Prop := fnCustom256UptoRow.holds Try.pinned (OpenSpec.upto fnCustom256Spec)

/-- 'laws.FnTwoXofs', WHERE WHAT IT READS IS OF BULK AT MOST 1048576: true; the input reads as it did. -/
def fnTwoXofsUptoRow : OpenClaim := { program := "ytkijnpjefccepaa", sum := "a87b75925ec972f8d55ab1074ec81bb3bc4f4942a2d426352e90dc3149930d04", func := "loop.example/lib-g01197/laws.FnTwoXofs", spec := "fnTwoXofs", inPlace := ["crypto/internal/fips140/alias.AnyOverlap", "crypto/internal/fips140/subtle.xorBytes", "crypto/internal/fips140/sha3.keccakF1600", "crypto/internal/fips140.getIndicator", "crypto/internal/fips140.setIndicator"], unfollowed := true, recurses := true, apart := false, narrowed := true }
def FnTwoXofsUptoSaid : Prop := fnTwoXofsUptoRow.holds Try.pinned (OpenSpec.upto fnTwoXofsSpec)

/-- 'laws.FnXofAppendsState', WHERE WHAT IT READS IS OF BULK AT MOST 1048576: true; the input reads as it did. -/
def fnXofAppendsStateUptoRow : OpenClaim := { program := "ytkijnpjefccepaa", sum := "a87b75925ec972f8d55ab1074ec81bb3bc4f4942a2d426352e90dc3149930d04", func := "loop.example/lib-g01197/laws.FnXofAppendsState", spec := "fnXofAppendsState", inPlace := ["crypto/internal/fips140/alias.AnyOverlap", "crypto/internal/fips140/subtle.xorBytes", "crypto/internal/fips140/sha3.keccakF1600", "crypto/internal/fips140.getIndicator", "crypto/internal/fips140.setIndicator"], unfollowed := true, recurses := true, apart := false, narrowed := true }
def FnXofAppendsStateUptoSaid : Prop := fnXofAppendsStateUptoRow.holds Try.pinned (OpenSpec.upto fnXofAppendsStateSpec)

/-- 'laws.FnXofEmptyWrites', WHERE WHAT IT READS IS OF BULK AT MOST 1048576: true; the input reads as it did. -/
def fnXofEmptyWritesUptoRow : OpenClaim := { program := "ytkijnpjefccepaa", sum := "a87b75925ec972f8d55ab1074ec81bb3bc4f4942a2d426352e90dc3149930d04", func := "loop.example/lib-g01197/laws.FnXofEmptyWrites", spec := "fnXofEmptyWrites", inPlace := ["crypto/internal/fips140/alias.AnyOverlap", "crypto/internal/fips140/subtle.xorBytes", "crypto/internal/fips140/sha3.keccakF1600", "crypto/internal/fips140.getIndicator", "crypto/internal/fips140.setIndicator"], unfollowed := true, recurses := true, apart := false, narrowed := true }
def FnXofEmptyWritesUptoSaid : Prop := fnXofEmptyWritesUptoRow.holds Try.pinned (OpenSpec.upto fnXofEmptyWritesSpec)

/-- 'laws.FnXofResets', WHERE WHAT IT READS IS OF BULK AT MOST 1048576: true; the input reads as it did. -/
def fnXofResetsUptoRow : OpenClaim := { program := "ytkijnpjefccepaa", sum := "a87b75925ec972f8d55ab1074ec81bb3bc4f4942a2d426352e90dc3149930d04", func := "loop.example/lib-g01197/laws.FnXofResets", spec := "fnXofResets", inPlace := ["crypto/internal/fips140/alias.AnyOverlap", "crypto/internal/fips140/subtle.xorBytes", "crypto/internal/fips140/sha3.keccakF1600", "crypto/internal/fips140.getIndicator", "crypto/internal/fips140.setIndicator"], unfollowed := true, recurses := true, apart := false, narrowed := true }
def FnXofResetsUptoSaid : Prop := fnXofResetsUptoRow.holds Try.pinned (OpenSpec.upto fnXofResetsSpec)

end Rows
end Go.Proofs.Ytkijnpjefccepaa
