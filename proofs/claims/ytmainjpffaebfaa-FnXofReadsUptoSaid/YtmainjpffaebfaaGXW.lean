/- Contracts and lemmas, merged: CutX. Their conditions stand in each. -/
import Derived.Test.YtmainjpffaebfaaGA
import Derived.Test.YtmainjpffaebfaaGB
import Derived.Test.YtmainjpffaebfaaGC
import Derived.Test.YtmainjpffaebfaaGG
import Derived.Test.YtmainjpffaebfaaGH
import Derived.Test.YtmainjpffaebfaaGN
import Derived.Test.YtmainjpffaebfaaGT
import Derived.Test.YtmainjpffaebfaaGU
import Derived.Test.YtmainjpffaebfaaGX
import Derived.Test.YtmainjpffaebfaaGY
import Derived.Test.YtmainjpffaebfaaGXA
import Derived.Test.YtmainjpffaebfaaGXI
section
namespace Go.Sha
open Go.RowKit
theorem goX_write (p : XP) (rs : List Res) (l d : Bs) : goX p ⟨rs, [⟨l, none⟩], [], false⟩ ⟨0, 0, 0, d⟩ = ⟨rs ++ [⟨d.length, d, true, false⟩], [⟨l ++ d, none⟩], [], false⟩ := rfl
theorem goX_read (p : XP) (rs : List Res) (x : XS) (d : Bs) : goX p ⟨rs, [x], [], false⟩ ⟨1, 0, 0, d⟩ = ⟨rs ++ [⟨d.length, xOut p x d.length, true, false⟩], [x.read d.length], [], false⟩ := rfl
theorem foldX_wrs (p : XP) (ps : List Bs) : ∀ (rs : List Res) (l : Bs), (wrs ps).foldl (goX p) ⟨rs, [⟨l, none⟩], [], false⟩ = ⟨rs ++ wrR ps, [⟨l ++ ps.flatten, none⟩], [], false⟩ := by
  induction ps with
  | nil => intro rs l; simp [wrs, wrR]
  | cons d ps ih =>
    intro rs l
    have h : wrs (d :: ps) = ⟨0, 0, 0, d⟩ :: wrs ps := rfl
    rw [h, List.foldl_cons, goX_write, ih]
    simp [wrR]
theorem runXS_wrs (p : XP) (ps : List Bs) : runXS p (wrs ps) = ⟨wrR ps, [⟨p.hd ++ ps.flatten, none⟩], [], false⟩ := by
  unfold runXS
  rw [foldX_wrs]
  simp
theorem runX_wrs (p : XP) (ps : List Bs) : runX p (wrs ps) = wrR ps := by
  unfold runX
  rw [runXS_wrs]
theorem runX_read (p : XP) (ps : List Bs) (z : Bs) : runX p (wrs ps ++ [⟨1, 0, 0, z⟩]) = wrR ps ++ [⟨z.length, xOut p ⟨p.hd ++ ps.flatten, none⟩ z.length, true, false⟩] := by
  unfold runX
  rw [runXS_snoc, runXS_wrs, goX_read]
/-- reads, one behind the other -/
def rdL (p : XP) : XS → List Nat → List Res
  | _, [] => []
  | x, n :: ns => ⟨n, xOut p x n, true, false⟩ :: rdL p (x.read n) ns
def rds (ns : List Nat) : List Actn := ns.map fun n => ⟨1, 0, 0, List.replicate n 0⟩
theorem foldX_rds (p : XP) (ns : List Nat) : ∀ (rs : List Res) (x : XS), ((rds ns).foldl (goX p) ⟨rs, [x], [], false⟩).rs = rs ++ rdL p x ns := by
  induction ns with
  | nil => intro rs x; simp [rds, rdL]
  | cons n ns ih =>
    intro rs x
    have h : rds (n :: ns) = ⟨1, 0, 0, List.replicate n 0⟩ :: rds ns := rfl
    rw [h, List.foldl_cons, goX_read, ih]
    simp [rdL]
theorem runX_rds (p : XP) (data : Bs) (ns : List Nat) : runX p (⟨0, 0, 0, data⟩ :: rds ns) = ⟨data.length, data, true, false⟩ :: rdL p ⟨p.hd ++ data, none⟩ ns := by
  unfold runX runXS
  rw [List.foldl_cons, goX_write, foldX_rds]
  rfl
theorem rdL_len (p : XP) (ns : List Nat) : ∀ x, (rdL p x ns).length = ns.length := by
  induction ns with
  | nil => intro x; rfl
  | cons n ns ih => intro x; simp [rdL, ih]
theorem xOut_zero (p : XP) (x : XS) : xOut p x 0 = [] := List.length_eq_zero_iff.1 (xOut_length p x 0)
theorem rdL_flat (p : XP) (ns : List Nat) : ∀ x, (rdL p x ns).flatMap (·.data) = xOut p x ns.sum := by
  induction ns with
  | nil => intro x; simp [rdL, xOut_zero]
  | cons n ns ih =>
    intro x
    rw [List.sum_cons, xOut_add, ← ih]
    simp [rdL]
theorem rdL_get (p : XP) (ns : List Nat) : ∀ (x : XS) (i : Nat), i < ns.length → ((rdL p x ns).getD i ⟨0, [], false, false⟩).n = (ns.getD i 0 : Int) ∧ ((rdL p x ns).getD i ⟨0, [], false, false⟩).data.length = ns.getD i 0 := by
  induction ns with
  | nil => intro x i hi; simp at hi
  | cons n ns ih =>
    intro x i hi
    cases i with
    | zero => simp [rdL, xOut_length]
    | succ i =>
      have := ih (x.read n) i (by simpa using hi)
      simpa [rdL] using this
theorem rdL_take (p : XP) (ns : List Nat) : ∀ (x : XS) (i : Nat), (rdL p x ns).take i = rdL p x (ns.take i) := by
  induction ns with
  | nil => intro x i; simp [rdL]
  | cons n ns ih =>
    intro x i
    cases i with
    | zero => simp [rdL]
    | succ i => simp [rdL, ih]
end Go.Sha
end
