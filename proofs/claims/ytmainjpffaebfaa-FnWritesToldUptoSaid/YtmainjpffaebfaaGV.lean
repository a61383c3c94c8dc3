/- Contracts and lemmas, merged: CutH. Their conditions stand in each. -/
import Derived.Test.YtmainjpffaebfaaGA
import Derived.Test.YtmainjpffaebfaaGB
import Derived.Test.YtmainjpffaebfaaGC
import Derived.Test.YtmainjpffaebfaaGG
import Derived.Test.YtmainjpffaebfaaGH
import Derived.Test.YtmainjpffaebfaaGN
import Derived.Test.YtmainjpffaebfaaGT
import Derived.Test.YtmainjpffaebfaaGU
import Derived.Test.YtmainjpffaebfaaGP
import Derived.Test.YtmainjpffaebfaaGK
section
namespace Go.Sha
open Go.RowKit
theorem goH_write (r o : Nat) (rs : List Res) (l p : Bs) : goH r o (rs, [l], []) ⟨0, 0, 0, p⟩ = (rs ++ [⟨p.length, p, true, false⟩], [l ++ p], []) := rfl
theorem fold_wrs (r o : Nat) (ps : List Bs) : ∀ (rs : List Res) (l : Bs), (wrs ps).foldl (goH r o) (rs, [l], []) = (rs ++ wrR ps, [l ++ ps.flatten], []) := by
  induction ps with
  | nil => intro rs l; simp [wrs, wrR]
  | cons p ps ih =>
    intro rs l
    have h : wrs (p :: ps) = ⟨0, 0, 0, p⟩ :: wrs ps := rfl
    rw [h, List.foldl_cons, goH_write, ih]
    simp [wrR]
theorem runS_wrs (r o : Nat) (ps : List Bs) : runS r o (wrs ps) = (wrR ps, [ps.flatten], []) := by
  unfold runS
  rw [fold_wrs]
  simp
theorem runH_wrs (r o : Nat) (ps : List Bs) : runH r o (wrs ps) = wrR ps := by
  unfold runH
  rw [runS_wrs]
theorem runH_ask (r o : Nat) (ps : List Bs) (x : Bs) : runH r o (wrs ps ++ [⟨1, 0, 0, x⟩]) = wrR ps ++ [⟨0, x ++ hsum r o ps.flatten, false, false⟩] := by
  unfold runH
  rw [runS_snoc, runS_wrs]
  rfl
end Go.Sha
end
