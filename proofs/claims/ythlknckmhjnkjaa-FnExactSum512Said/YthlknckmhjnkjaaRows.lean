/-
  No cell of these rows narrows 'for every input' (looked for: loops, veiled, ifaces, maps, wideKeys, modest, calm, conditions, laid).
  DERIVED. THE GIVEN ROWS OF THIS SEAT. 7 by the template 'for every input the law returns true; each argument reads behind the call as it read before'; 0 by the template 'total and deterministic' (their statements: YthlknckmhjnkjaaTotals.lean).
  GIVEN WITH THE SEED: the statements are not yours to turn. If you find one false, say at which input.
  Laid BY PROGRAM, IN A SANDBOX (cutbox-rows.mjs): the forced cells as the released guide's own fill.sh prints them over the translation d2335ca5d8e8ea76… (all of the seat's roots in one cut). By AI agents, Wed Nov 11 2026. No macro, syntax, notation, axiom, sorry.
-/
import Derived.Test.YthlknckmhjnkjaaChecked
import GoSem.Claim
import GoSem.ClaimJoined
import GoSem.ClaimMapViews
import Derived.JoinedTies
import Derived.KernelRfl
namespace Go.Proofs.Ythlknckmhjnkjaa
/- THE CELL 'sum', in the pinned program and in every row, IS THE sha256 OF THE DUMP (.gsa) THAT YthlknckmhjnkjaaProg.lean LOADS. Nothing in Lean hashes anything: it is a label: what it is worth is what the hold of that sum in a sandbox is worth. -/
noncomputable def Try.pinned : Pinned := { name := "ythlknckmhjnkjaa", sum := "d2335ca5d8e8ea7639735d654fa20573a0015aad55dbe7a98fbcada4debd95fb", checked := Try.checked }
namespace Rows
def none {H : Type} : Left H := { results := [], args := [] }

/-- 'laws.FnSumSHAKE128': WHATEVER THE INPUT: true; the input reads as it did. -/
def fnSumSHAKE128Spec : ChangeSpec := { name := "fnSumSHAKE128", fn := fun _ => fun
  | [d1, d2] => { results := [.lit (.bool true)], args := [d1, d2] }
  | _ => none }
def fnSumSHAKE128Row : OpenClaim := { program := "ythlknckmhjnkjaa", sum := "d2335ca5d8e8ea7639735d654fa20573a0015aad55dbe7a98fbcada4debd95fb", func := "loop.example/lib-g01197/laws.FnSumSHAKE128", spec := "fnSumSHAKE128", inPlace := ["crypto/internal/fips140/alias.AnyOverlap", "crypto/internal/fips140/subtle.xorBytes", "crypto/internal/fips140/sha3.keccakF1600", "crypto/internal/fips140.getIndicator", "crypto/internal/fips140.setIndicator"], apart := false }
def FnSumSHAKE128Said : Prop := fnSumSHAKE128Row.holds Try.pinned (OpenSpec.ofChange fnSumSHAKE128Spec)

/-- ITS FALSE NEIGHBOUR: 'it returns false'. Refute it at one input. -/
def fnSumSHAKE128Wrong : ChangeSpec := { name := "fnSumSHAKE128", fn := fun _ => fun
  | [d1, d2] => { results := [.lit (.bool false)], args := [d1, d2] }
  | _ => none }
def FnSumSHAKE128WrongFalsely : Prop := fnSumSHAKE128Row.holds Try.pinned (OpenSpec.ofChange fnSumSHAKE128Wrong)

/-- 'laws.FnSumSHAKE256': WHATEVER THE INPUT: true; the input reads as it did. -/
def fnSumSHAKE256Spec : ChangeSpec := { name := "fnSumSHAKE256", fn := fun _ => fun
  | [d1, d2] => { results := [.lit (.bool true)], args := [d1, d2] }
  | _ => none }
def fnSumSHAKE256Row : OpenClaim := { program := "ythlknckmhjnkjaa", sum := "d2335ca5d8e8ea7639735d654fa20573a0015aad55dbe7a98fbcada4debd95fb", func := "loop.example/lib-g01197/laws.FnSumSHAKE256", spec := "fnSumSHAKE256", inPlace := ["crypto/internal/fips140/alias.AnyOverlap", "crypto/internal/fips140/subtle.xorBytes", "crypto/internal/fips140/sha3.keccakF1600", "crypto/internal/fips140.getIndicator", "crypto/internal/fips140.setIndicator"], apart := false }
def FnSumSHAKE256Said : Prop := fnSumSHAKE256Row.holds Try.pinned (OpenSpec.ofChange fnSumSHAKE256Spec)

/-- ITS FALSE NEIGHBOUR: 'it returns false'. Refute it at one input. -/
def fnSumSHAKE256Wrong : ChangeSpec := { name := "fnSumSHAKE256", fn := fun _ => fun
  | [d1, d2] => { results := [.lit (.bool false)], args := [d1, d2] }
  | _ => none }
def FnSumSHAKE256WrongFalsely : Prop := fnSumSHAKE256Row.holds Try.pinned (OpenSpec.ofChange fnSumSHAKE256Wrong)

/-- 'laws.FnExactSum224': WHATEVER THE INPUT: true; the input reads as it did. -/
def fnExactSum224Spec : ChangeSpec := { name := "fnExactSum224", fn := fun _ => fun
  | [d] => { results := [.lit (.bool true)], args := [d] }
  | _ => none }
def fnExactSum224Row : OpenClaim := { program := "ythlknckmhjnkjaa", sum := "d2335ca5d8e8ea7639735d654fa20573a0015aad55dbe7a98fbcada4debd95fb", func := "loop.example/lib-g01197/laws.FnExactSum224", spec := "fnExactSum224", inPlace := ["crypto/internal/fips140/alias.AnyOverlap", "crypto/internal/fips140/subtle.xorBytes", "crypto/internal/fips140/sha3.keccakF1600", "crypto/internal/fips140.getIndicator", "crypto/internal/fips140.setIndicator"], apart := false }
def FnExactSum224Said : Prop := fnExactSum224Row.holds Try.pinned (OpenSpec.ofChange fnExactSum224Spec)

/-- ITS FALSE NEIGHBOUR: 'it returns false'. Refute it at one input. -/
def fnExactSum224Wrong : ChangeSpec := { name := "fnExactSum224", fn := fun _ => fun
  | [d] => { results := [.lit (.bool false)], args := [d] }
  | _ => none }
def FnExactSum224WrongFalsely : Prop := fnExactSum224Row.holds Try.pinned (OpenSpec.ofChange fnExactSum224Wrong)

/-- 'laws.FnExactSum256': WHATEVER THE INPUT: true; the input reads as it did. -/
def fnExactSum256Spec : ChangeSpec := { name := "fnExactSum256", fn := fun _ => fun
  | [d] => { results := [.lit (.bool true)], args := [d] }
  | _ => none }
def fnExactSum256Row : OpenClaim := { program := "ythlknckmhjnkjaa", sum := "d2335ca5d8e8ea7639735d654fa20573a0015aad55dbe7a98fbcada4debd95fb", func := "loop.example/lib-g01197/laws.FnExactSum256", spec := "fnExactSum256", inPlace := ["crypto/internal/fips140/alias.AnyOverlap", "crypto/internal/fips140/subtle.xorBytes", "crypto/internal/fips140/sha3.keccakF1600", "crypto/internal/fips140.getIndicator", "crypto/internal/fips140.setIndicator"], apart := false }
def FnExactSum256Said : Prop := fnExactSum256Row.holds Try.pinned (OpenSpec.ofChange fnExactSum256Spec)

/-- ITS FALSE NEIGHBOUR: 'it returns false'. Refute it at one input. -/
def fnExactSum256Wrong : ChangeSpec := { name := "fnExactSum256", fn := fun _ => fun
  | [d] => { results := [.lit (.bool false)], args := [d] }
  | _ => none }
def FnExactSum256WrongFalsely : Prop := fnExactSum256Row.holds Try.pinned (OpenSpec.ofChange fnExactSum256Wrong)

/-- 'laws.FnExactSum384': WHATEVER THE INPUT: true; the input reads as it did. -/
def fnExactSum384Spec : ChangeSpec := { name := "fnExactSum384", fn := fun _ => fun
  | [d] => { results := [.lit (.bool true)], args := [d] }
  | _ => none }
def fnExactSum384Row : OpenClaim := { program := "ythlknckmhjnkjaa", sum := "d2335ca5d8e8ea7639735d654fa20573a0015aad55dbe7a98fbcada4debd95fb", func := "loop.example/lib-g01197/laws.FnExactSum384", spec := "fnExactSum384", inPlace := ["crypto/internal/fips140/alias.AnyOverlap", "crypto/internal/fips140/subtle.xorBytes", "crypto/internal/fips140/sha3.keccakF1600", "crypto/internal/fips140.getIndicator", "crypto/internal/fips140.setIndicator"], apart := false }
def FnExactSum384Said : Prop := fnExactSum384Row.holds Try.pinned (OpenSpec.ofChange fnExactSum384Spec)

/-- ITS FALSE NEIGHBOUR: 'it returns false'. Refute it at one input. -/
def fnExactSum384Wrong : ChangeSpec := { name := "fnExactSum384", fn := fun _ => fun
  | [d] => { results := [.lit (.bool false)], args := [d] }
  | _ => none }
def FnExactSum384WrongFalsely : Prop := fnExactSum384Row.holds Try.pinned (OpenSpec.ofChange fnExactSum384Wrong)

/-- 'laws.FnExactSum512': WHATEVER THE INPUT: true; the input reads as it did. -/
def fnExactSum512Spec : ChangeSpec := { name := "fnExactSum512", fn := fun _ => fun
  | [d] => { results := [.lit (.bool true)], args := [d] }
  | _ => none }
def fnExactSum512Row : OpenClaim := { program := "ythlknckmhjnkjaa", sum := "d2335ca5d8e8ea7639735d654fa20573a0015aad55dbe7a98fbcada4debd95fb", func := "loop.example/lib-g01197/laws.FnExactSum512", spec := "fnExactSum512", inPlace := ["crypto/internal/fips140/alias.AnyOverlap", "crypto/internal/fips140/subtle.xorBytes", "crypto/internal/fips140/sha3.keccakF1600", "crypto/internal/fips140.getIndicator", "crypto/internal/fips140.setIndicator"], apart := false }
def FnExactSum512Said : Prop := fnExactSum512Row.holds Try.pinned (OpenSpec.ofChange fnExactSum512Spec)

/-- ITS FALSE NEIGHBOUR: 'it returns false'. Refute it at one input. -/
def fnExactSum512Wrong : ChangeSpec := { name := "fnExactSum512", fn := fun _ => fun
  | [d] => { results := [.lit (.bool false)], args := [d] }
  | _ => none }
def FnExactSum512WrongFalsely : Prop := fnExactSum512Row.holds Try.pinned (OpenSpec.ofChange fnExactSum512Wrong)

/-- 'laws.FnXofPrefix': WHATEVER THE INPUT: true; the input reads as it did. -/
def fnXofPrefixSpec : ChangeSpec := { name := "fnXofPrefix", fn := fun _ => fun
  | [d1, d2, d3] => { results := [.lit (.bool true)], args := [d1, d2, d3] }
  | _ => none }
def fnXofPrefixRow : OpenClaim := { program := "ythlknckmhjnkjaa", sum := "d2335ca5d8e8ea7639735d654fa20573a0015aad55dbe7a98fbcada4debd95fb", func := "loop.example/lib-g01197/laws.FnXofPrefix", spec := "fnXofPrefix", inPlace := ["crypto/internal/fips140/alias.AnyOverlap", "crypto/internal/fips140/subtle.xorBytes", "crypto/internal/fips140/sha3.keccakF1600", "crypto/internal/fips140.getIndicator", "crypto/internal/fips140.setIndicator"], apart := false }
def FnXofPrefixSaid : Prop := fnXofPrefixRow.holds Try.pinned (OpenSpec.ofChange fnXofPrefixSpec)

/-- ITS FALSE NEIGHBOUR: 'it returns false'. Refute it at one input. -/
def fnXofPrefixWrong : ChangeSpec := { name := "fnXofPrefix", fn := fun _ => fun
  | [d1, d2, d3] => { results := [.lit (.bool false)], args := [d1, d2, d3] }
  | _ => none }
def FnXofPrefixWrongFalsely : Prop := fnXofPrefixRow.holds Try.pinned (OpenSpec.ofChange fnXofPrefixWrong)

/- THE SECOND FORM. 'bulk': how many values and letters a reading holds, each counted each time it is reached (what is shared counts as often as it is met; a slice's spare places count too). A statement '..UptoSaid' is the law's where the arguments, and the package variables that the reading takes, are together of bulk at most 1048576: NARROWER than '..Said'. Prove '..Said' where nothing that the law and all that it calls make is longer than what came in: it says more and counts as full. Else prove '..UptoSaid'. A law counts once. -/
mutual
def uptoBulk {H : Type} : DataW H → Nat
  | .lit (.string bytes) => bytes.length + 1
  | .lit _ => 1
  | .nil => 1
  | .ptr d => uptoBulk d + 1
  | .slice elems spare => uptoBulkAll elems + uptoBulkAll spare + 1
  | .agg parts => uptoBulkAll parts + 1
  | .iface _ d => uptoBulk d + 1
  | .map entries => uptoBulkEntries entries + 1
  | .held _ => 1
def uptoBulkAll {H : Type} : List (DataW H) → Nat
  | [] => 0
  | d :: r => uptoBulk d + uptoBulkAll r
def uptoBulkEntries {H : Type} : List (Lit × DataW H) → Nat
  | [] => 0
  | x :: r => uptoBulkEntry x + uptoBulkEntries r
def uptoBulkEntry {H : Type} : Lit × DataW H → Nat
  | (.string bytes, d) => bytes.length + uptoBulk d + 1
  | (_, d) => uptoBulk d + 1
 end
def uptoSmall : (H : Type) → List (DataW H) → Bool := fun _ ds => decide (uptoBulkAll ds ≤ 1048576)
def OpenSpec.upto (s : _root_.Go.ChangeSpec) : _root_.Go.OpenSpec := { _root_.Go.OpenSpec.ofChange s with cond := some uptoSmall }

/-- 'laws.FnSumSHAKE128', WHERE WHAT IT READS IS OF BULK AT MOST 1048576: true; the input reads as it did. -/
def fnSumSHAKE128UptoRow : OpenClaim := { program := "ythlknckmhjnkjaa", sum := "d2335ca5d8e8ea7639735d654fa20573a0015aad55dbe7a98fbcada4debd95fb", func := "loop.example/lib-g01197/laws.FnSumSHAKE128", spec := "fnSumSHAKE128", inPlace := ["crypto/internal/fips140/alias.AnyOverlap", "crypto/internal/fips140/subtle.xorBytes", "crypto/internal/fips140/sha3.keccakF1600", "crypto/internal/fips140.getIndicator", "crypto/internal/fips140.setIndicator"], apart := false, narrowed := true }
def FnSumSHAKE128UptoSaid : Prop := fnSumSHAKE128UptoRow.holds Try.pinned (OpenSpec.upto fnSumSHAKE128Spec)

/-- 'laws.FnSumSHAKE256', WHERE WHAT IT READS IS OF BULK AT MOST 1048576: true; the input reads as it did. -/
def fnSumSHAKE256UptoRow : OpenClaim := { program := "ythlknckmhjnkjaa", sum := "d2335ca5d8e8ea7639735d654fa20573a0015aad55dbe7a98fbcada4debd95fb", func := "loop.example/lib-g01197/laws.FnSumSHAKE256", spec := "fnSumSHAKE256", inPlace := ["crypto/internal/fips140/alias.AnyOverlap", "crypto/internal/fips140/subtle.xorBytes", "crypto/internal/fips140/sha3.keccakF1600", "crypto/internal/fips140.getIndicator", "crypto/internal/fips140.setIndicator"], apart := false, narrowed := true }
def FnSumSHAKE256UptoSaid : Prop := fnSumSHAKE256UptoRow.holds Try.pinned (OpenSpec.upto fnSumSHAKE256Spec)

/-- 'laws.FnExactSum224', WHERE WHAT IT READS IS OF BULK AT MOST 1048576: true; the input reads as it did. -/
def fnExactSum224UptoRow : OpenClaim := { program := "ythlknckmhjnkjaa", sum := "d2335ca5d8e8ea7639735d654fa20573a0015aad55dbe7a98fbcada4debd95fb", func := "loop.example/lib-g01197/laws.FnExactSum224", spec := "fnExactSum224", inPlace := ["crypto/internal/fips140/alias.AnyOverlap", "crypto/internal/fips140/subtle.xorBytes", "crypto/internal/fips140/sha3.keccakF1600", "crypto/internal/fips140.getIndicator", "crypto/internal/fips140.setIndicator"], apart := false, narrowed := true }
def FnExactSum224UptoSaid : Prop := fnExactSum224UptoRow.holds Try.pinned (OpenSpec.upto fnExactSum224Spec)

/-- 'laws.FnExactSum256', WHERE WHAT IT READS IS OF BULK AT MOST 1048576: true; the input reads as it did. -/
def fnExactSum256UptoRow : OpenClaim := { program := "ythlknckmhjnkjaa", sum := "d2335ca5d8e8ea7639735d654fa20573a0015aad55dbe7a98fbcada4debd95fb", func := "loop.example/lib-g01197/laws.FnExactSum256", spec := "fnExactSum256", inPlace := ["crypto/internal/fips140/alias.AnyOverlap", "crypto/internal/fips140/subtle.xorBytes", "crypto/internal/fips140/sha3.keccakF1600", "crypto/internal/fips140.getIndicator", "crypto/internal/fips140.setIndicator"], apart := false, narrowed := true }
def FnExactSum256UptoSaid : Prop := fnExactSum256UptoRow.holds Try.pinned (OpenSpec.upto fnExactSum256Spec)

/-- 'laws.FnExactSum384', WHERE WHAT IT READS IS OF BULK AT MOST 1048576: true; the input reads as it did. -/
def fnExactSum384UptoRow : OpenClaim := { program := "ythlknckmhjnkjaa", sum := "d2335ca5d8e8ea7639735d654fa20573a0015aad55dbe7a98fbcada4debd95fb", func := "loop.example/lib-g01197/laws.FnExactSum384", spec := "fnExactSum384", inPlace := ["crypto/internal/fips140/alias.AnyOverlap", "crypto/internal/fips140/subtle.xorBytes", "crypto/internal/fips140/sha3.keccakF1600", "crypto/internal/fips140.getIndicator", "crypto/internal/fips140.setIndicator"], apart := false, narrowed := true }
def FnExactSum384UptoSaid : Prop := fnExactSum384UptoRow.holds Try.pinned (OpenSpec.upto fnExactSum384Spec)

/-- 'laws.FnExactSum512', WHERE WHAT IT READS IS OF BULK AT MOST 1048576: true; the input reads as it did. -/
def fnExactSum512UptoRow : OpenClaim := { program := "ythlknckmhjnkjaa", sum := "d2335ca5d8e8ea7639735d654fa20573a0015aad55dbe7a98fbcada4debd95fb", func := "loop.example/lib-g01197/laws.FnExactSum512", spec := "fnExactSum512", inPlace := ["crypto/internal/fips140/alias.AnyOverlap", "crypto/internal/fips140/subtle.xorBytes", "crypto/internal/fips140/sha3.keccakF1600", "crypto/internal/fips140.getIndicator", "crypto/internal/fips140.setIndicator"], apart := false, narrowed := true }
def FnExactSum512UptoSaid : Prop := fnExactSum512UptoRow.holds Try.pinned (OpenSpec.upto fnExactSum512Spec)

/-- 'laws.FnXofPrefix', WHERE WHAT IT READS IS OF BULK AT MOST 1048576: true; the input reads as it did. -/
def fnXofPrefixUptoRow : OpenClaim := { program := "ythlknckmhjnkjaa", sum := "d2335ca5d8e8ea7639735d654fa20573a0015aad55dbe7a98fbcada4debd95fb", func := "loop.example/lib-g01197/laws.FnXofPrefix", spec := "fnXofPrefix", inPlace := ["crypto/internal/fips140/alias.AnyOverlap", "crypto/internal/fips140/subtle.xorBytes", "crypto/internal/fips140/sha3.keccakF1600", "crypto/internal/fips140.getIndicator", "crypto/internal/fips140.setIndicator"], apart := false, narrowed := true }
def FnXofPrefixUptoSaid : Prop := fnXofPrefixUptoRow.holds Try.pinned (OpenSpec.upto fnXofPrefixSpec)

end Rows
end Go.Proofs.Ythlknckmhjnkjaa
