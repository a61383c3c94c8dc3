/-
  No cell of these rows narrows 'for every input' (looked for: loops, veiled, ifaces, maps, wideKeys, modest, calm, conditions, laid).
  DERIVED. THE GIVEN ROWS OF THIS SEAT. 6 by the template 'for every input the law returns true; each argument reads behind the call as it read before'; 0 by the template 'total and deterministic' (their statements: YtmainjpffaebfaaTotals.lean).
  GIVEN WITH THE SEED: the statements are not yours to turn. If you find one false, say at which input.
  Laid BY PROGRAM, IN A SANDBOX (cutbox-rows.mjs): the forced cells as the released guide's own fill.sh prints them over the translation 646f6e0c680ef2d3… (all of the seat's roots in one cut). By AI agents, Wed Nov 11 2026. No macro, syntax, notation, axiom, sorry.
-/
import Derived.Test.YtmainjpffaebfaaChecked
import GoSem.Claim
import GoSem.ClaimJoined
import GoSem.ClaimMapViews
import Derived.JoinedTies
import Derived.KernelRfl
namespace Go.Proofs.Ytmainjpffaebfaa
/- THE CELL 'sum', in the pinned program and in every row, IS THE sha256 OF THE DUMP (.gsa) THAT YtmainjpffaebfaaProg.lean LOADS. Nothing in Lean hashes anything: it is a label: what it is worth is what the hold of that sum in a sandbox is worth. -/
noncomputable def Try.pinned : Pinned := { name := "ytmainjpffaebfaa", sum := "646f6e0c680ef2d33afaf1fc880c078e838040fda3f3d26a29ef1961609a4ffb", checked := Try.checked }
namespace Rows
def none {H : Type} : Left H := { results := [], args := [] }

/-- 'laws.FnXofSaves': WHATEVER THE INPUT: true; the input reads as it did. -/
def fnXofSavesSpec : ChangeSpec := { name := "fnXofSaves", fn := fun _ => fun
  | [d1, d2, d3, d4, d5, d6, d7] => { results := [.lit (.bool true)], args := [d1, d2, d3, d4, d5, d6, d7] }
  | _ => none }
def fnXofSavesRow : OpenClaim := { program := "ytmainjpffaebfaa", sum := "646f6e0c680ef2d33afaf1fc880c078e838040fda3f3d26a29ef1961609a4ffb", func := "loop.example/lib-g01197/laws.FnXofSaves", spec := "fnXofSaves", inPlace := ["crypto/internal/fips140/alias.AnyOverlap", "crypto/internal/fips140/subtle.xorBytes", "crypto/internal/fips140/sha3.keccakF1600", "crypto/internal/fips140.getIndicator", "crypto/internal/fips140.setIndicator"], unfollowed := true, recurses := true, apart := false }
def FnXofSavesSaid : Prop := fnXofSavesRow.holds Try.pinned (OpenSpec.ofChange fnXofSavesSpec)

/-- ITS FALSE NEIGHBOUR: 'it returns false'. Refute it at one input. -/
def fnXofSavesWrong : ChangeSpec := { name := "fnXofSaves", fn := fun _ => fun
  | [d1, d2, d3, d4, d5, d6, d7] => { results := [.lit (.bool false)], args := [d1, d2, d3, d4, d5, d6, d7] }
  | _ => none }
def FnXofSavesWrongFalsely : Prop := fnXofSavesRow.holds Try.pinned (OpenSpec.ofChange fnXofSavesWrong)

/-- 'laws.FnXofSavesReading': WHATEVER THE INPUT: true; the input reads as it did. -/
def fnXofSavesReadingSpec : ChangeSpec := { name := "fnXofSavesReading", fn := fun _ => fun
  | [d1, d2, d3, d4, d5, d6] => { results := [.lit (.bool true)], args := [d1, d2, d3, d4, d5, d6] }
  | _ => none }
def fnXofSavesReadingRow : OpenClaim := { program := "ytmainjpffaebfaa", sum := "646f6e0c680ef2d33afaf1fc880c078e838040fda3f3d26a29ef1961609a4ffb", func := "loop.example/lib-g01197/laws.FnXofSavesReading", spec := "fnXofSavesReading", inPlace := ["crypto/internal/fips140/alias.AnyOverlap", "crypto/internal/fips140/subtle.xorBytes", "crypto/internal/fips140/sha3.keccakF1600", "crypto/internal/fips140.getIndicator", "crypto/internal/fips140.setIndicator"], unfollowed := true, recurses := true, apart := false }
def FnXofSavesReadingSaid : Prop := fnXofSavesReadingRow.holds Try.pinned (OpenSpec.ofChange fnXofSavesReadingSpec)

/-- ITS FALSE NEIGHBOUR: 'it returns false'. Refute it at one input. -/
def fnXofSavesReadingWrong : ChangeSpec := { name := "fnXofSavesReading", fn := fun _ => fun
  | [d1, d2, d3, d4, d5, d6] => { results := [.lit (.bool false)], args := [d1, d2, d3, d4, d5, d6] }
  | _ => none }
def FnXofSavesReadingWrongFalsely : Prop := fnXofSavesReadingRow.holds Try.pinned (OpenSpec.ofChange fnXofSavesReadingWrong)

/-- 'laws.FnXofReads': WHATEVER THE INPUT: true; the input reads as it did. -/
def fnXofReadsSpec : ChangeSpec := { name := "fnXofReads", fn := fun _ => fun
  | [d1, d2, d3, d4, d5] => { results := [.lit (.bool true)], args := [d1, d2, d3, d4, d5] }
  | _ => none }
def fnXofReadsRow : OpenClaim := { program := "ytmainjpffaebfaa", sum := "646f6e0c680ef2d33afaf1fc880c078e838040fda3f3d26a29ef1961609a4ffb", func := "loop.example/lib-g01197/laws.FnXofReads", spec := "fnXofReads", inPlace := ["crypto/internal/fips140/alias.AnyOverlap", "crypto/internal/fips140/subtle.xorBytes", "crypto/internal/fips140/sha3.keccakF1600", "crypto/internal/fips140.getIndicator", "crypto/internal/fips140.setIndicator"], unfollowed := true, recurses := true, apart := false }
def FnXofReadsSaid : Prop := fnXofReadsRow.holds Try.pinned (OpenSpec.ofChange fnXofReadsSpec)

/-- ITS FALSE NEIGHBOUR: 'it returns false'. Refute it at one input. -/
def fnXofReadsWrong : ChangeSpec := { name := "fnXofReads", fn := fun _ => fun
  | [d1, d2, d3, d4, d5] => { results := [.lit (.bool false)], args := [d1, d2, d3, d4, d5] }
  | _ => none }
def FnXofReadsWrongFalsely : Prop := fnXofReadsRow.holds Try.pinned (OpenSpec.ofChange fnXofReadsWrong)

/-- 'laws.FnRunXofs': WHATEVER THE INPUT: true; the input reads as it did. -/
def fnRunXofsSpec : ChangeSpec := { name := "fnRunXofs", fn := fun _ => fun
  | [d1, d2, d3, d4] => { results := [.lit (.bool true)], args := [d1, d2, d3, d4] }
  | _ => none }
def fnRunXofsRow : OpenClaim := { program := "ytmainjpffaebfaa", sum := "646f6e0c680ef2d33afaf1fc880c078e838040fda3f3d26a29ef1961609a4ffb", func := "loop.example/lib-g01197/laws.FnRunXofs", spec := "fnRunXofs", inPlace := ["crypto/internal/fips140/alias.AnyOverlap", "crypto/internal/fips140/subtle.xorBytes", "crypto/internal/fips140/sha3.keccakF1600", "crypto/internal/fips140.getIndicator", "crypto/internal/fips140.setIndicator"], unfollowed := true, recurses := true, apart := false }
def FnRunXofsSaid : Prop := fnRunXofsRow.holds Try.pinned (OpenSpec.ofChange fnRunXofsSpec)

/-- ITS FALSE NEIGHBOUR: 'it returns false'. Refute it at one input. -/
def fnRunXofsWrong : ChangeSpec := { name := "fnRunXofs", fn := fun _ => fun
  | [d1, d2, d3, d4] => { results := [.lit (.bool false)], args := [d1, d2, d3, d4] }
  | _ => none }
def FnRunXofsWrongFalsely : Prop := fnRunXofsRow.holds Try.pinned (OpenSpec.ofChange fnRunXofsWrong)

/-- 'laws.FnXofIsSum': WHATEVER THE INPUT: true; the input reads as it did. -/
def fnXofIsSumSpec : ChangeSpec := { name := "fnXofIsSum", fn := fun _ => fun
  | [d1, d2, d3] => { results := [.lit (.bool true)], args := [d1, d2, d3] }
  | _ => none }
def fnXofIsSumRow : OpenClaim := { program := "ytmainjpffaebfaa", sum := "646f6e0c680ef2d33afaf1fc880c078e838040fda3f3d26a29ef1961609a4ffb", func := "loop.example/lib-g01197/laws.FnXofIsSum", spec := "fnXofIsSum", inPlace := ["crypto/internal/fips140/alias.AnyOverlap", "crypto/internal/fips140/subtle.xorBytes", "crypto/internal/fips140/sha3.keccakF1600", "crypto/internal/fips140.getIndicator", "crypto/internal/fips140.setIndicator"], unfollowed := true, recurses := true, apart := false }
def FnXofIsSumSaid : Prop := fnXofIsSumRow.holds Try.pinned (OpenSpec.ofChange fnXofIsSumSpec)

/-- ITS FALSE NEIGHBOUR: 'it returns false'. Refute it at one input. -/
def fnXofIsSumWrong : ChangeSpec := { name := "fnXofIsSum", fn := fun _ => fun
  | [d1, d2, d3] => { results := [.lit (.bool false)], args := [d1, d2, d3] }
  | _ => none }
def FnXofIsSumWrongFalsely : Prop := fnXofIsSumRow.holds Try.pinned (OpenSpec.ofChange fnXofIsSumWrong)

/-- 'laws.FnWritesTold': WHATEVER THE INPUT: true; the input reads as it did. -/
def fnWritesToldSpec : ChangeSpec := { name := "fnWritesTold", fn := fun _ => fun
  | [d1, d2, d3] => { results := [.lit (.bool true)], args := [d1, d2, d3] }
  | _ => none }
def fnWritesToldRow : OpenClaim := { program := "ytmainjpffaebfaa", sum := "646f6e0c680ef2d33afaf1fc880c078e838040fda3f3d26a29ef1961609a4ffb", func := "loop.example/lib-g01197/laws.FnWritesTold", spec := "fnWritesTold", inPlace := ["crypto/internal/fips140/alias.AnyOverlap", "crypto/internal/fips140/subtle.xorBytes", "crypto/internal/fips140/sha3.keccakF1600", "crypto/internal/fips140.getIndicator", "crypto/internal/fips140.setIndicator"], unfollowed := true, recurses := true, apart := false }
def FnWritesToldSaid : Prop := fnWritesToldRow.holds Try.pinned (OpenSpec.ofChange fnWritesToldSpec)

/-- ITS FALSE NEIGHBOUR: 'it returns false'. Refute it at one input. -/
def fnWritesToldWrong : ChangeSpec := { name := "fnWritesTold", fn := fun _ => fun
  | [d1, d2, d3] => { results := [.lit (.bool false)], args := [d1, d2, d3] }
  | _ => none }
def FnWritesToldWrongFalsely : Prop := fnWritesToldRow.holds Try.pinned (OpenSpec.ofChange fnWritesToldWrong)

/- THE SECOND FORM. 'bulk': how many values and letters a reading holds, each counted each time it is reached (what is shared counts as often as it is met; a slice's spare places count too). A statement '..UptoSaid' is the law's where the arguments, and the package variables that the reading takes, are together of bulk at most 1048576: NARROWER than '..Said'. Prove '..Said' where nothing that the law and all that it calls make is longer than what came in: it says more and counts as full. Else prove '..UptoSaid'. A law counts once. -/
mutual
def uptoBulk {H : Type} : DataW H → Nat
  | .lit (.string bytes) => bytes.length + 1
  | .lit _ => 1
  | .nil => 1
  | .ptr d => uptoBulk d + 1
  | .slice elems spare => uptoBulkAll elems + uptoBulkAll spare + 1
  | .agg parts => uptoBulkAll parts + 1
  | .iface _ d => uptoBulk d + 1
  | .map entries => uptoBulkEntries entries + 1
  | .held _ => 1
def uptoBulkAll {H : Type} : List (DataW H) → Nat
  | [] => 0
  | d :: r => uptoBulk d + uptoBulkAll r
def uptoBulkEntries {H : Type} : List (Lit × DataW H) → Nat
  | [] => 0
  | x :: r => uptoBulkEntry x + uptoBulkEntries r
def uptoBulkEntry {H : Type} : Lit × DataW H → Nat
  | (.string bytes, d) => bytes.length + uptoBulk d + 1
  | (_, d) => uptoBulk d + 1
 end
def uptoSmall : (H : Type) → List (DataW H) → Bool := fun _ ds => decide (uptoBulkAll ds ≤ 1048576)
def OpenSpec.upto (s : _root_.Go.ChangeSpec) : _root_.Go.OpenSpec := { _root_.Go.OpenSpec.ofChange s with cond := some uptoSmall }

/-- 'laws.FnXofSaves', WHERE WHAT IT READS IS OF BULK AT MOST 1048576: true; the input reads as it did. -/
def fnXofSavesUptoRow : OpenClaim := { program := "ytmainjpffaebfaa", sum := "646f6e0c680ef2d33afaf1fc880c078e838040fda3f3d26a29ef1961609a4ffb", func := "loop.example/lib-g01197/laws.FnXofSaves", spec := "fnXofSaves", inPlace := ["crypto/internal/fips140/alias.AnyOverlap", "crypto/internal/fips140/subtle.xorBytes", "crypto/internal/fips140/sha3.keccakF1600", "crypto/internal/fips140.getIndicator", "crypto/internal/fips140.setIndicator"], unfollowed := true, recurses := true, apart := false, narrowed := true }
def FnXofSavesUptoSaid : Prop := fnXofSavesUptoRow.holds Try.pinned (OpenSpec.upto fnXofSavesSpec)

/-- 'laws.FnXofSavesReading', WHERE WHAT IT READS IS OF BULK AT MOST 1048576: true; the input reads as it did. -/
def fnXofSavesReadingUptoRow : OpenClaim := { program := "ytmainjpffaebfaa", sum := "646f6e0c680ef2d33afaf1fc880c078e838040fda3f3d26a29ef1961609a4ffb", func := "loop.example/lib-g01197/laws.FnXofSavesReading", spec := "fnXofSavesReading", inPlace := ["crypto/internal/fips140/alias.AnyOverlap", "crypto/internal/fips140/subtle.xorBytes", "crypto/internal/fips140/sha3.keccakF1600", "crypto/internal/fips140.getIndicator", "crypto/internal/fips140.setIndicator"], unfollowed := true, recurses := true, apart := false, narrowed := true }
def FnXofSavesReadingUptoSaid : Prop := fnXofSavesReadingUptoRow.holds Try.pinned (OpenSpec.upto fnXofSavesReadingSpec)

/-- 'laws.FnXofReads', WHERE WHAT IT READS IS OF BULK AT MOST 1048576: true; the input reads as it did. -/
def fnXofReadsUptoRow : OpenClaim := { program := "ytmainjpffaebfaa", sum := "646f6e0c680ef2d33afaf1fc880c078e838040fda3f3d26a29ef1961609a4ffb", func := "loop.example/lib-g01197/laws.FnXofReads", spec := "fnXofReads", inPlace := ["crypto/internal/fips140/alias.AnyOverlap", "crypto/internal/fips140/subtle.xorBytes", "crypto/internal/fips140/sha3.keccakF1600", "crypto/internal/fips140.getIndicator", "crypto/internal/fips140.setIndicator"], unfollowed := true, recurses := true, apart := false, narrowed := true }
def FnXofReadsUptoSaid : Prop := fnXofReadsUptoRow.holds Try.pinned (OpenSpec.upto fnXofReadsSpec)

/-- 'laws.FnRunXofs', WHERE WHAT IT READS IS OF BULK AT MOST 1048576: true; the input reads as it did. -/
def fnRunXofsUptoRow : OpenClaim := { program := "ytmainjpffaebfaa", sum := "646f6e0c680ef2d33afaf1fc880c078e838040fda3f3d26a29ef1961609a4ffb", func := "loop.example/lib-g01197/laws.FnRunXofs", spec := "fnRunXofs", inPlace := ["crypto/internal/fips140/alias.AnyOverlap", "crypto/internal/fips140/subtle.xorBytes", "crypto/internal/fips140/sha3.keccakF1600", "crypto/internal/fips140.getIndicator", "crypto/internal/fips140.setIndicator"], unfollowed := true, recurses := true, apart := false, narrowed := true }
def FnRunXofsUptoSaid : Prop := fnRunXofsUptoRow.holds Try.pinned (OpenSpec.upto fnRunXofsSpec)

/-- 'laws.FnXofIsSum', WHERE WHAT IT READS IS OF BULK AT MOST 1048576: true; the input reads as it did. -/
def fnXofIsSumUptoRow : OpenClaim := { program := "ytmainjpffaebfaa", sum := "646f6e0c680ef2d33afaf1fc880c078e838040fda3f3d26a29ef1961609a4ffb", func := "loop.example/lib-g01197/laws.FnXofIsSum", spec := "fnXofIsSum", inPlace := ["crypto/internal/fips140/alias.AnyOverlap", "crypto/internal/fips140/subtle.xorBytes", "crypto/internal/fips140/sha3.keccakF1600", "crypto/internal/fips140.getIndicator", "crypto/internal/fips140.setIndicator"], unfollowed := true, recurses := true, apart := false, narrowed := true }
def FnXofIsSumUptoSaid : Prop := fnXofIsSumUptoRow.holds Try.pinned (OpenSpec.upto fnXofIsSumSpec)

/-- 'laws.FnWritesTold', WHERE WHAT IT READS IS OF BULK AT MOST 1048576: true; the input reads as it did. -/
def fnWritesToldUptoRow : OpenClaim := { program := "ytmainjpffaebfaa", sum := "646f6e0c680ef2d33afaf1fc880c078e838040fda3f3d26a29ef1961609a4ffb", func := "loop.example/lib-g01197/laws.FnWritesTold", spec := "fnWritesTold", inPlace := ["crypto/internal/fips140/alias.AnyOverlap", "crypto/internal/fips140/subtle.xorBytes", "crypto/internal/fips140/sha3.keccakF1600", "crypto/internal/fips140.getIndicator", "crypto/internal/fips140.setIndicator"], unfollowed := true, recurses := true, apart := false, narrowed := true }
def FnWritesToldUptoSaid : Prop := fnWritesToldUptoRow.holds Try.pinned (OpenSpec.upto fnWritesToldSpec)

end Rows
end Go.Proofs.Ytmainjpffaebfaa
