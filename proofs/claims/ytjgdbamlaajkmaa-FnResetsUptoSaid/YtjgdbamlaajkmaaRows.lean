/-
  No cell of these rows narrows 'for every input' (looked for: loops, veiled, ifaces, maps, wideKeys, modest, calm, conditions, laid).
  DERIVED. THE GIVEN ROWS OF THIS SEAT. 12 by the template 'for every input the law returns true; each argument reads behind the call as it read before'; 0 by the template 'total and deterministic' (their statements: YtjgdbamlaajkmaaTotals.lean).
  GIVEN WITH THE SEED: the statements are not yours to turn. If you find one false, say at which input.
  Laid BY PROGRAM, IN A SANDBOX (cutbox-rows.mjs): the forced cells as the released guide's own fill.sh prints them over the translation d4cdd82489481421… (all of the seat's roots in one cut). By AI agents, Wed Nov 11 2026. No macro, syntax, notation, axiom, sorry.
-/
import Derived.Test.YtjgdbamlaajkmaaChecked
import GoSem.Claim
import GoSem.ClaimJoined
import GoSem.ClaimMapViews
import Derived.JoinedTies
import Derived.KernelRfl
namespace Go.Proofs.Ytjgdbamlaajkmaa
/- THE CELL 'sum', in the pinned program and in every row, IS THE sha256 OF THE DUMP (.gsa) THAT YtjgdbamlaajkmaaProg.lean LOADS. Nothing in Lean hashes anything: it is a label: what it is worth is what the hold of that sum in a sandbox is worth. -/
noncomputable def Try.pinned : Pinned := { name := "ytjgdbamlaajkmaa", sum := "d4cdd8248948142143547fd0f3189e1b6e000598b5200124ec8e03f454a6fec2", checked := Try.checked }
namespace Rows
def none {H : Type} : Left H := { results := [], args := [] }

/-- 'laws.FnSizes': WHATEVER THE INPUT: true; the input reads as it did. -/
def fnSizesSpec : ChangeSpec := { name := "fnSizes", fn := fun _ => fun
  | [d1, d2] => { results := [.lit (.bool true)], args := [d1, d2] }
  | _ => none }
def fnSizesRow : OpenClaim := { program := "ytjgdbamlaajkmaa", sum := "d4cdd8248948142143547fd0f3189e1b6e000598b5200124ec8e03f454a6fec2", func := "loop.example/lib-g01197/laws.FnSizes", spec := "fnSizes", inPlace := ["crypto/internal/fips140/alias.AnyOverlap", "crypto/internal/fips140/subtle.xorBytes", "crypto/internal/fips140/sha3.keccakF1600", "crypto/internal/fips140.getIndicator", "crypto/internal/fips140.setIndicator"], apart := false }
def FnSizesSaid : Prop := fnSizesRow.holds Try.pinned (OpenSpec.ofChange fnSizesSpec)

/-- ITS FALSE NEIGHBOUR: 'it returns false'. Refute it at one input. -/
def fnSizesWrong : ChangeSpec := { name := "fnSizes", fn := fun _ => fun
  | [d1, d2] => { results := [.lit (.bool false)], args := [d1, d2] }
  | _ => none }
def FnSizesWrongFalsely : Prop := fnSizesRow.holds Try.pinned (OpenSpec.ofChange fnSizesWrong)

/-- 'laws.FnSumAppends': WHATEVER THE INPUT: true; the input reads as it did. -/
def fnSumAppendsSpec : ChangeSpec := { name := "fnSumAppends", fn := fun _ => fun
  | [d1, d2, d3] => { results := [.lit (.bool true)], args := [d1, d2, d3] }
  | _ => none }
def fnSumAppendsRow : OpenClaim := { program := "ytjgdbamlaajkmaa", sum := "d4cdd8248948142143547fd0f3189e1b6e000598b5200124ec8e03f454a6fec2", func := "loop.example/lib-g01197/laws.FnSumAppends", spec := "fnSumAppends", inPlace := ["crypto/internal/fips140/alias.AnyOverlap", "crypto/internal/fips140/subtle.xorBytes", "crypto/internal/fips140/sha3.keccakF1600", "crypto/internal/fips140.getIndicator", "crypto/internal/fips140.setIndicator"], apart := false }
def FnSumAppendsSaid : Prop := fnSumAppendsRow.holds Try.pinned (OpenSpec.ofChange fnSumAppendsSpec)

/-- ITS FALSE NEIGHBOUR: 'it returns false'. Refute it at one input. -/
def fnSumAppendsWrong : ChangeSpec := { name := "fnSumAppends", fn := fun _ => fun
  | [d1, d2, d3] => { results := [.lit (.bool false)], args := [d1, d2, d3] }
  | _ => none }
def FnSumAppendsWrongFalsely : Prop := fnSumAppendsRow.holds Try.pinned (OpenSpec.ofChange fnSumAppendsWrong)

/-- 'laws.FnSumKeeps': WHATEVER THE INPUT: true; the input reads as it did. -/
def fnSumKeepsSpec : ChangeSpec := { name := "fnSumKeeps", fn := fun _ => fun
  | [d1, d2, d3] => { results := [.lit (.bool true)], args := [d1, d2, d3] }
  | _ => none }
def fnSumKeepsRow : OpenClaim := { program := "ytjgdbamlaajkmaa", sum := "d4cdd8248948142143547fd0f3189e1b6e000598b5200124ec8e03f454a6fec2", func := "loop.example/lib-g01197/laws.FnSumKeeps", spec := "fnSumKeeps", inPlace := ["crypto/internal/fips140/alias.AnyOverlap", "crypto/internal/fips140/subtle.xorBytes", "crypto/internal/fips140/sha3.keccakF1600", "crypto/internal/fips140.getIndicator", "crypto/internal/fips140.setIndicator"], apart := false }
def FnSumKeepsSaid : Prop := fnSumKeepsRow.holds Try.pinned (OpenSpec.ofChange fnSumKeepsSpec)

/-- ITS FALSE NEIGHBOUR: 'it returns false'. Refute it at one input. -/
def fnSumKeepsWrong : ChangeSpec := { name := "fnSumKeeps", fn := fun _ => fun
  | [d1, d2, d3] => { results := [.lit (.bool false)], args := [d1, d2, d3] }
  | _ => none }
def FnSumKeepsWrongFalsely : Prop := fnSumKeepsRow.holds Try.pinned (OpenSpec.ofChange fnSumKeepsWrong)

/-- 'laws.FnResets': WHATEVER THE INPUT: true; the input reads as it did. -/
def fnResetsSpec : ChangeSpec := { name := "fnResets", fn := fun _ => fun
  | [d1, d2, d3] => { results := [.lit (.bool true)], args := [d1, d2, d3] }
  | _ => none }
def fnResetsRow : OpenClaim := { program := "ytjgdbamlaajkmaa", sum := "d4cdd8248948142143547fd0f3189e1b6e000598b5200124ec8e03f454a6fec2", func := "loop.example/lib-g01197/laws.FnResets", spec := "fnResets", inPlace := ["crypto/internal/fips140/alias.AnyOverlap", "crypto/internal/fips140/subtle.xorBytes", "crypto/internal/fips140/sha3.keccakF1600", "crypto/internal/fips140.getIndicator", "crypto/internal/fips140.setIndicator"], apart := false }
def FnResetsSaid : Prop := fnResetsRow.holds Try.pinned (OpenSpec.ofChange fnResetsSpec)

/-- ITS FALSE NEIGHBOUR: 'it returns false'. Refute it at one input. -/
def fnResetsWrong : ChangeSpec := { name := "fnResets", fn := fun _ => fun
  | [d1, d2, d3] => { results := [.lit (.bool false)], args := [d1, d2, d3] }
  | _ => none }
def FnResetsWrongFalsely : Prop := fnResetsRow.holds Try.pinned (OpenSpec.ofChange fnResetsWrong)

/-- 'laws.FnResetTwice': WHATEVER THE INPUT: true; the input reads as it did. -/
def fnResetTwiceSpec : ChangeSpec := { name := "fnResetTwice", fn := fun _ => fun
  | [d1, d2] => { results := [.lit (.bool true)], args := [d1, d2] }
  | _ => none }
def fnResetTwiceRow : OpenClaim := { program := "ytjgdbamlaajkmaa", sum := "d4cdd8248948142143547fd0f3189e1b6e000598b5200124ec8e03f454a6fec2", func := "loop.example/lib-g01197/laws.FnResetTwice", spec := "fnResetTwice", inPlace := ["crypto/internal/fips140/alias.AnyOverlap", "crypto/internal/fips140/subtle.xorBytes", "crypto/internal/fips140/sha3.keccakF1600", "crypto/internal/fips140.getIndicator", "crypto/internal/fips140.setIndicator"], apart := false }
def FnResetTwiceSaid : Prop := fnResetTwiceRow.holds Try.pinned (OpenSpec.ofChange fnResetTwiceSpec)

/-- ITS FALSE NEIGHBOUR: 'it returns false'. Refute it at one input. -/
def fnResetTwiceWrong : ChangeSpec := { name := "fnResetTwice", fn := fun _ => fun
  | [d1, d2] => { results := [.lit (.bool false)], args := [d1, d2] }
  | _ => none }
def FnResetTwiceWrongFalsely : Prop := fnResetTwiceRow.holds Try.pinned (OpenSpec.ofChange fnResetTwiceWrong)

/-- 'laws.FnClones': WHATEVER THE INPUT: true; the input reads as it did. -/
def fnClonesSpec : ChangeSpec := { name := "fnClones", fn := fun _ => fun
  | [d1, d2, d3, d4] => { results := [.lit (.bool true)], args := [d1, d2, d3, d4] }
  | _ => none }
def fnClonesRow : OpenClaim := { program := "ytjgdbamlaajkmaa", sum := "d4cdd8248948142143547fd0f3189e1b6e000598b5200124ec8e03f454a6fec2", func := "loop.example/lib-g01197/laws.FnClones", spec := "fnClones", inPlace := ["crypto/internal/fips140/alias.AnyOverlap", "crypto/internal/fips140/subtle.xorBytes", "crypto/internal/fips140/sha3.keccakF1600", "crypto/internal/fips140.getIndicator", "crypto/internal/fips140.setIndicator"], apart := false }
def FnClonesSaid : Prop := fnClonesRow.holds Try.pinned (OpenSpec.ofChange fnClonesSpec)

/-- ITS FALSE NEIGHBOUR: 'it returns false'. Refute it at one input. -/
def fnClonesWrong : ChangeSpec := { name := "fnClones", fn := fun _ => fun
  | [d1, d2, d3, d4] => { results := [.lit (.bool false)], args := [d1, d2, d3, d4] }
  | _ => none }
def FnClonesWrongFalsely : Prop := fnClonesRow.holds Try.pinned (OpenSpec.ofChange fnClonesWrong)

/-- 'laws.FnCloneOfClone': WHATEVER THE INPUT: true; the input reads as it did. -/
def fnCloneOfCloneSpec : ChangeSpec := { name := "fnCloneOfClone", fn := fun _ => fun
  | [d1, d2, d3, d4] => { results := [.lit (.bool true)], args := [d1, d2, d3, d4] }
  | _ => none }
def fnCloneOfCloneRow : OpenClaim := { program := "ytjgdbamlaajkmaa", sum := "d4cdd8248948142143547fd0f3189e1b6e000598b5200124ec8e03f454a6fec2", func := "loop.example/lib-g01197/laws.FnCloneOfClone", spec := "fnCloneOfClone", inPlace := ["crypto/internal/fips140/alias.AnyOverlap", "crypto/internal/fips140/subtle.xorBytes", "crypto/internal/fips140/sha3.keccakF1600", "crypto/internal/fips140.getIndicator", "crypto/internal/fips140.setIndicator"], apart := false }
def FnCloneOfCloneSaid : Prop := fnCloneOfCloneRow.holds Try.pinned (OpenSpec.ofChange fnCloneOfCloneSpec)

/-- ITS FALSE NEIGHBOUR: 'it returns false'. Refute it at one input. -/
def fnCloneOfCloneWrong : ChangeSpec := { name := "fnCloneOfClone", fn := fun _ => fun
  | [d1, d2, d3, d4] => { results := [.lit (.bool false)], args := [d1, d2, d3, d4] }
  | _ => none }
def FnCloneOfCloneWrongFalsely : Prop := fnCloneOfCloneRow.holds Try.pinned (OpenSpec.ofChange fnCloneOfCloneWrong)

/-- 'laws.FnSaves': WHATEVER THE INPUT: true; the input reads as it did. -/
def fnSavesSpec : ChangeSpec := { name := "fnSaves", fn := fun _ => fun
  | [d1, d2, d3, d4] => { results := [.lit (.bool true)], args := [d1, d2, d3, d4] }
  | _ => none }
def fnSavesRow : OpenClaim := { program := "ytjgdbamlaajkmaa", sum := "d4cdd8248948142143547fd0f3189e1b6e000598b5200124ec8e03f454a6fec2", func := "loop.example/lib-g01197/laws.FnSaves", spec := "fnSaves", inPlace := ["crypto/internal/fips140/alias.AnyOverlap", "crypto/internal/fips140/subtle.xorBytes", "crypto/internal/fips140/sha3.keccakF1600", "crypto/internal/fips140.getIndicator", "crypto/internal/fips140.setIndicator"], apart := false }
def FnSavesSaid : Prop := fnSavesRow.holds Try.pinned (OpenSpec.ofChange fnSavesSpec)

/-- ITS FALSE NEIGHBOUR: 'it returns false'. Refute it at one input. -/
def fnSavesWrong : ChangeSpec := { name := "fnSaves", fn := fun _ => fun
  | [d1, d2, d3, d4] => { results := [.lit (.bool false)], args := [d1, d2, d3, d4] }
  | _ => none }
def FnSavesWrongFalsely : Prop := fnSavesRow.holds Try.pinned (OpenSpec.ofChange fnSavesWrong)

/-- 'laws.FnLoadsOver': WHATEVER THE INPUT: true; the input reads as it did. -/
def fnLoadsOverSpec : ChangeSpec := { name := "fnLoadsOver", fn := fun _ => fun
  | [d1, d2, d3, d4] => { results := [.lit (.bool true)], args := [d1, d2, d3, d4] }
  | _ => none }
def fnLoadsOverRow : OpenClaim := { program := "ytjgdbamlaajkmaa", sum := "d4cdd8248948142143547fd0f3189e1b6e000598b5200124ec8e03f454a6fec2", func := "loop.example/lib-g01197/laws.FnLoadsOver", spec := "fnLoadsOver", inPlace := ["crypto/internal/fips140/alias.AnyOverlap", "crypto/internal/fips140/subtle.xorBytes", "crypto/internal/fips140/sha3.keccakF1600", "crypto/internal/fips140.getIndicator", "crypto/internal/fips140.setIndicator"], apart := false }
def FnLoadsOverSaid : Prop := fnLoadsOverRow.holds Try.pinned (OpenSpec.ofChange fnLoadsOverSpec)

/-- ITS FALSE NEIGHBOUR: 'it returns false'. Refute it at one input. -/
def fnLoadsOverWrong : ChangeSpec := { name := "fnLoadsOver", fn := fun _ => fun
  | [d1, d2, d3, d4] => { results := [.lit (.bool false)], args := [d1, d2, d3, d4] }
  | _ => none }
def FnLoadsOverWrongFalsely : Prop := fnLoadsOverRow.holds Try.pinned (OpenSpec.ofChange fnLoadsOverWrong)

/-- 'laws.FnAppendsState': WHATEVER THE INPUT: true; the input reads as it did. -/
def fnAppendsStateSpec : ChangeSpec := { name := "fnAppendsState", fn := fun _ => fun
  | [d1, d2, d3, d4] => { results := [.lit (.bool true)], args := [d1, d2, d3, d4] }
  | _ => none }
def fnAppendsStateRow : OpenClaim := { program := "ytjgdbamlaajkmaa", sum := "d4cdd8248948142143547fd0f3189e1b6e000598b5200124ec8e03f454a6fec2", func := "loop.example/lib-g01197/laws.FnAppendsState", spec := "fnAppendsState", inPlace := ["crypto/internal/fips140/alias.AnyOverlap", "crypto/internal/fips140/subtle.xorBytes", "crypto/internal/fips140/sha3.keccakF1600", "crypto/internal/fips140.getIndicator", "crypto/internal/fips140.setIndicator"], apart := false }
def FnAppendsStateSaid : Prop := fnAppendsStateRow.holds Try.pinned (OpenSpec.ofChange fnAppendsStateSpec)

/-- ITS FALSE NEIGHBOUR: 'it returns false'. Refute it at one input. -/
def fnAppendsStateWrong : ChangeSpec := { name := "fnAppendsState", fn := fun _ => fun
  | [d1, d2, d3, d4] => { results := [.lit (.bool false)], args := [d1, d2, d3, d4] }
  | _ => none }
def FnAppendsStateWrongFalsely : Prop := fnAppendsStateRow.holds Try.pinned (OpenSpec.ofChange fnAppendsStateWrong)

/-- 'laws.FnEmptyWrites': WHATEVER THE INPUT: true; the input reads as it did. -/
def fnEmptyWritesSpec : ChangeSpec := { name := "fnEmptyWrites", fn := fun _ => fun
  | [d1, d2, d3] => { results := [.lit (.bool true)], args := [d1, d2, d3] }
  | _ => none }
def fnEmptyWritesRow : OpenClaim := { program := "ytjgdbamlaajkmaa", sum := "d4cdd8248948142143547fd0f3189e1b6e000598b5200124ec8e03f454a6fec2", func := "loop.example/lib-g01197/laws.FnEmptyWrites", spec := "fnEmptyWrites", inPlace := ["crypto/internal/fips140/alias.AnyOverlap", "crypto/internal/fips140/subtle.xorBytes", "crypto/internal/fips140/sha3.keccakF1600", "crypto/internal/fips140.getIndicator", "crypto/internal/fips140.setIndicator"], apart := false }
def FnEmptyWritesSaid : Prop := fnEmptyWritesRow.holds Try.pinned (OpenSpec.ofChange fnEmptyWritesSpec)

/-- ITS FALSE NEIGHBOUR: 'it returns false'. Refute it at one input. -/
def fnEmptyWritesWrong : ChangeSpec := { name := "fnEmptyWrites", fn := fun _ => fun
  | [d1, d2, d3] => { results := [.lit (.bool false)], args := [d1, d2, d3] }
  | _ => none }
def FnEmptyWritesWrongFalsely : Prop := fnEmptyWritesRow.holds Try.pinned (OpenSpec.ofChange fnEmptyWritesWrong)

/-- 'laws.FnTwoHashes': WHATEVER THE INPUT: true; the input reads as it did. -/
def fnTwoHashesSpec : ChangeSpec := { name := "fnTwoHashes", fn := fun _ => fun
  | [d1, d2, d3, d4, d5] => { results := [.lit (.bool true)], args := [d1, d2, d3, d4, d5] }
  | _ => none }
def fnTwoHashesRow : OpenClaim := { program := "ytjgdbamlaajkmaa", sum := "d4cdd8248948142143547fd0f3189e1b6e000598b5200124ec8e03f454a6fec2", func := "loop.example/lib-g01197/laws.FnTwoHashes", spec := "fnTwoHashes", inPlace := ["crypto/internal/fips140/alias.AnyOverlap", "crypto/internal/fips140/subtle.xorBytes", "crypto/internal/fips140/sha3.keccakF1600", "crypto/internal/fips140.getIndicator", "crypto/internal/fips140.setIndicator"], apart := false }
def FnTwoHashesSaid : Prop := fnTwoHashesRow.holds Try.pinned (OpenSpec.ofChange fnTwoHashesSpec)

/-- ITS FALSE NEIGHBOUR: 'it returns false'. Refute it at one input. -/
def fnTwoHashesWrong : ChangeSpec := { name := "fnTwoHashes", fn := fun _ => fun
  | [d1, d2, d3, d4, d5] => { results := [.lit (.bool false)], args := [d1, d2, d3, d4, d5] }
  | _ => none }
def FnTwoHashesWrongFalsely : Prop := fnTwoHashesRow.holds Try.pinned (OpenSpec.ofChange fnTwoHashesWrong)

/- THE SECOND FORM. 'bulk': how many values and letters a reading holds, each counted each time it is reached (what is shared counts as often as it is met; a slice's spare places count too). A statement '..UptoSaid' is the law's where the arguments, and the package variables that the reading takes, are together of bulk at most 1048576: NARROWER than '..Said'. Prove '..Said' where nothing that the law and all that it calls make is longer than what came in: it says more and counts as full. Else prove '..UptoSaid'. A law counts once. -/
mutual
def uptoBulk {H : Type} : DataW H → Nat
  | .lit (.string bytes) => bytes.length + 1
  | .lit _ => 1
  | .nil => 1
  | .ptr d => uptoBulk d + 1
  | .slice elems spare => uptoBulkAll elems + uptoBulkAll spare + 1
  | .agg parts => uptoBulkAll parts + 1
  | .iface _ d => uptoBulk d + 1
  | .map entries => uptoBulkEntries entries + 1
  | .held _ => 1
def uptoBulkAll {H : Type} : List (DataW H) → Nat
  | [] => 0
  | d :: r => uptoBulk d + uptoBulkAll r
def uptoBulkEntries {H : Type} : List (Lit × DataW H) → Nat
  | [] => 0
  | x :: r => uptoBulkEntry x + uptoBulkEntries r
def uptoBulkEntry {H : Type} : Lit × DataW H → Nat
  | (.string bytes, d) => bytes.length + uptoBulk d + 1
  | (_, d) => uptoBulk d + 1
 end
def uptoSmall : (H : Type) → List (DataW H) → Bool := fun _ ds => decide (uptoBulkAll ds ≤ 1048576)
def OpenSpec.upto (s : _root_.Go.ChangeSpec) : _root_.Go.OpenSpec := { _root_.Go.OpenSpec.ofChange s with cond := some uptoSmall }

/-- 'laws.FnSizes', WHERE WHAT IT READS IS OF BULK AT MOST 1048576: true; the input reads as it did. -/
def fnSizesUptoRow : OpenClaim := { program := "ytjgdbamlaajkmaa", sum := "d4cdd8248948142143547fd0f3189e1b6e000598b5200124ec8e03f454a6fec2", func := "loop.example/lib-g01197/laws.FnSizes", spec := "fnSizes", inPlace := ["crypto/internal/fips140/alias.AnyOverlap", "crypto/internal/fips140/subtle.xorBytes", "crypto/internal/fips140/sha3.keccakF1600", "crypto/internal/fips140.getIndicator", "crypto/internal/fips140.setIndicator"], apart := false, narrowed := true }
def FnSizesUptoSaid : Prop := fnSizesUptoRow.holds Try.pinned (OpenSpec.upto fnSizesSpec)

/-- 'laws.FnSumAppends', WHERE WHAT IT READS IS OF BULK AT MOST 1048576: true; the input reads as it did. -/
def fnSumAppendsUptoRow : OpenClaim := { program := "ytjgdbamlaajkmaa", sum := "d4cdd8248948142143547fd0f3189e1b6e000598b5200124ec8e03f454a6fec2", func := "loop.example/lib-g01197/laws.FnSumAppends", spec := "fnSumAppends", inPlace := ["crypto/internal/fips140/alias.AnyOverlap", "crypto/internal/fips140/subtle.xorBytes", "crypto/internal/fips140/sha3.keccakF1600", "crypto/internal/fips140.getIndicator", "crypto/internal/fips140.setIndicator"], apart := false, narrowed := true }
def FnSumAppendsUptoSaid : Prop := fnSumAppendsUptoRow.holds Try.pinned (OpenSpec.upto fnSumAppendsSpec)

/-- 'laws.FnSumKeeps', WHERE WHAT IT READS IS OF BULK AT MOST 1048576: true; the input reads as it did. -/
def fnSumKeepsUptoRow : OpenClaim := { program := "ytjgdbamlaajkmaa", sum := "d4cdd8248948142143547fd0f3189e1b6e000598b5200124ec8e03f454a6fec2", func := "loop.example/lib-g01197/laws.FnSumKeeps", spec := "fnSumKeeps", inPlace := ["crypto/internal/fips140/alias.AnyOverlap", "crypto/internal/fips140/subtle.xorBytes", "crypto/internal/fips140/sha3.keccakF1600", "crypto/internal/fips140.getIndicator", "crypto/internal/fips140.setIndicator"], apart := false, narrowed := true }
def FnSumKeepsUptoSaid : Prop := fnSumKeepsUptoRow.holds Try.pinned (OpenSpec.upto fnSumKeepsSpec)

/-- 'laws.FnResets', WHERE WHAT IT READS IS OF BULK AT MOST 1048576: true; the input reads as it did. -/
def fnResetsUptoRow : OpenClaim := { program := "ytjgdbamlaajkmaa", sum := "d4cdd8248948142143547fd0f3189e1b6e000598b5200124ec8e03f454a6fec2", func := "loop.example/lib-g01197/laws.FnResets", spec := "fnResets", inPlace := ["crypto/internal/fips140/alias.AnyOverlap", "crypto/internal/fips140/subtle.xorBytes", "crypto/internal/fips140/sha3.keccakF1600", "crypto/internal/fips140.getIndicator", "crypto/internal/fips140.setIndicator"], apart := false, narrowed := true }
def FnResetsUptoSaid : Prop := fnResetsUptoRow.holds Try.pinned (OpenSpec.upto fnResetsSpec)

/-- 'laws.FnResetTwice', WHERE WHAT IT READS IS OF BULK AT MOST 1048576: true; the input reads as it did. -/
def fnResetTwiceUptoRow : OpenClaim := { program := "ytjgdbamlaajkmaa", sum := "d4cdd8248948142143547fd0f3189e1b6e000598b5200124ec8e03f454a6fec2", func := "loop.example/lib-g01197/laws.FnResetTwice", spec := "fnResetTwice", inPlace := ["crypto/internal/fips140/alias.AnyOverlap", "crypto/internal/fips140/subtle.xorBytes", "crypto/internal/fips140/sha3.keccakF1600", "crypto/internal/fips140.getIndicator", "crypto/internal/fips140.setIndicator"], apart := false, narrowed := true }
def FnResetTwiceUptoSaid : Prop := fnResetTwiceUptoRow.holds Try.pinned (OpenSpec.upto fnResetTwiceSpec)

/-- 'laws.FnClones', WHERE WHAT IT READS IS OF BULK AT MOST 1048576: true; the input reads as it did. -/
def fnClonesUptoRow : OpenClaim := { program := "ytjgdbamlaajkmaa", sum := "d4cdd8248948142143547fd0f3189e1b6e000598b5200124ec8e03f454a6fec2", func := "loop.example/lib-g01197/laws.FnClones", spec := "fnClones", inPlace := ["crypto/internal/fips140/alias.AnyOverlap", "crypto/internal/fips140/subtle.xorBytes", "crypto/internal/fips140/sha3.keccakF1600", "crypto/internal/fips140.getIndicator", "crypto/internal/fips140.setIndicator"], apart := false, narrowed := true }
def FnClonesUptoSaid : Prop := fnClonesUptoRow.holds Try.pinned (OpenSpec.upto fnClonesSpec)

/-- 'laws.FnCloneOfClone', WHERE WHAT IT READS IS OF BULK AT MOST 1048576: true; the input reads as it did. -/
def fnCloneOfCloneUptoRow : OpenClaim := { program := "ytjgdbamlaajkmaa", sum := "d4cdd8248948142143547fd0f3189e1b6e000598b5200124ec8e03f454a6fec2", func := "loop.example/lib-g01197/laws.FnCloneOfClone", spec := "fnCloneOfClone", inPlace := ["crypto/internal/fips140/alias.AnyOverlap", "crypto/internal/fips140/subtle.xorBytes", "crypto/internal/fips140/sha3.keccakF1600", "crypto/internal/fips140.getIndicator", "crypto/internal/fips140.setIndicator"], apart := false, narrowed := true }
def FnCloneOfCloneUptoSaid : Prop := fnCloneOfCloneUptoRow.holds Try.pinned (OpenSpec.upto fnCloneOfCloneSpec)

/-- 'laws.FnSaves', WHERE WHAT IT READS IS OF BULK AT MOST 1048576: true; the input reads as it did. -/
def fnSavesUptoRow : OpenClaim := { program := "ytjgdbamlaajkmaa", sum := "d4cdd8248948142143547fd0f3189e1b6e000598b5200124ec8e03f454a6fec2", func := "loop.example/lib-g01197/laws.FnSaves", spec := "fnSaves", inPlace := ["crypto/internal/fips140/alias.AnyOverlap", "crypto/internal/fips140/subtle.xorBytes", "crypto/internal/fips140/sha3.keccakF1600", "crypto/internal/fips140.getIndicator", "crypto/internal/fips140.setIndicator"], apart := false, narrowed := true }
def FnSavesUptoSaid : Prop := fnSavesUptoRow.holds Try.pinned (OpenSpec.upto fnSavesSpec)

/-- 'laws.FnLoadsOver', WHERE WHAT IT READS IS OF BULK AT MOST 1048576: true; the input reads as it did. -/
def fnLoadsOverUptoRow : OpenClaim := { program := "ytjgdbamlaajkmaa", sum := "d4cdd8248948142143547fd0f3189e1b6e000598b5200124ec8e03f454a6fec2", func := "loop.example/lib-g01197/laws.FnLoadsOver", spec := "fnLoadsOver", inPlace := ["crypto/internal/fips140/alias.AnyOverlap", "crypto/internal/fips140/subtle.xorBytes", "crypto/internal/fips140/sha3.keccakF1600", "crypto/internal/fips140.getIndicator", "crypto/internal/fips140.setIndicator"], apart := false, narrowed := true }
def FnLoadsOverUptoSaid : Prop := fnLoadsOverUptoRow.holds Try.pinned (OpenSpec.upto fnLoadsOverSpec)

/-- 'laws.FnAppendsState', WHERE WHAT IT READS IS OF BULK AT MOST 1048576: true; the input reads as it did. -/
def fnAppendsStateUptoRow : OpenClaim := { program := "ytjgdbamlaajkmaa", sum := "d4cdd8248948142143547fd0f3189e1b6e000598b5200124ec8e03f454a6fec2", func := "loop.example/lib-g01197/laws.FnAppendsState", spec := "fnAppendsState", inPlace := ["crypto/internal/fips140/alias.AnyOverlap", "crypto/internal/fips140/subtle.xorBytes", "crypto/internal/fips140/sha3.keccakF1600", "crypto/internal/fips140.getIndicator", "crypto/internal/fips140.setIndicator"], apart := false, narrowed := true }
def FnAppendsStateUptoSaid : Prop := fnAppendsStateUptoRow.holds Try.pinned (OpenSpec.upto fnAppendsStateSpec)

/-- 'laws.FnEmptyWrites', WHERE WHAT IT READS IS OF BULK AT MOST 1048576: true; the input reads as it did. -/
def fnEmptyWritesUptoRow : OpenClaim := { program := "ytjgdbamlaajkmaa", sum := "d4cdd8248948142143547fd0f3189e1b6e000598b5200124ec8e03f454a6fec2", func := "loop.example/lib-g01197/laws.FnEmptyWrites", spec := "fnEmptyWrites", inPlace := ["crypto/internal/fips140/alias.AnyOverlap", "crypto/internal/fips140/subtle.xorBytes", "crypto/internal/fips140/sha3.keccakF1600", "crypto/internal/fips140.getIndicator", "crypto/internal/fips140.setIndicator"], apart := false, narrowed := true }
def FnEmptyWritesUptoSaid : Prop := fnEmptyWritesUptoRow.holds Try.pinned (OpenSpec.upto fnEmptyWritesSpec)

/-- 'laws.FnTwoHashes', WHERE WHAT IT READS IS OF BULK AT MOST 1048576: true; the input reads as it did. -/
def fnTwoHashesUptoRow : OpenClaim := { program := "ytjgdbamlaajkmaa", sum := "d4cdd8248948142143547fd0f3189e1b6e000598b5200124ec8e03f454a6fec2", func := "loop.example/lib-g01197/laws.FnTwoHashes", spec := "fnTwoHashes", inPlace := ["crypto/internal/fips140/alias.AnyOverlap", "crypto/internal/fips140/subtle.xorBytes", "crypto/internal/fips140/sha3.keccakF1600", "crypto/internal/fips140.getIndicator", "crypto/internal/fips140.setIndicator"], apart := false, narrowed := true }
def FnTwoHashesUptoSaid : Prop := fnTwoHashesUptoRow.holds Try.pinned (OpenSpec.upto fnTwoHashesSpec)

end Rows
end Go.Proofs.Ytjgdbamlaajkmaa
