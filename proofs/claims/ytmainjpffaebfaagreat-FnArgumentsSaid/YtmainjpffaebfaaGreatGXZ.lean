/- Contracts and lemmas, merged: Xz. Their conditions stand in each. -/
import Derived.Test.YtmainjpffaebfaaGreatGA
import Derived.Test.YtmainjpffaebfaaGreatGB
import Derived.Test.YtmainjpffaebfaaGreatGC
import Derived.Test.YtmainjpffaebfaaGreatGG
import Derived.Test.YtmainjpffaebfaaGreatGH
import Derived.Test.YtmainjpffaebfaaGreatGN
import Derived.Test.YtmainjpffaebfaaGreatGX
import Derived.Test.YtmainjpffaebfaaGreatGY
import Derived.Test.YtmainjpffaebfaaGreatGXA
import Derived.Test.YtmainjpffaebfaaGreatGXB
import Derived.Test.YtmainjpffaebfaaGreatGXI
import Derived.Test.YtmainjpffaebfaaGreatGXJ
import Derived.Test.YtmainjpffaebfaaGreatGXC
import Derived.Test.YtmainjpffaebfaaGreatGXK
import Derived.Test.YtmainjpffaebfaaGreatGXD
import Derived.Test.YtmainjpffaebfaaGreatGXG
import Derived.Test.YtmainjpffaebfaaGreatGXF
import Derived.Test.YtmainjpffaebfaaGreatGXH
section
namespace Go.Sha
open Go.RowKit
theorem xpOf_nil_ini (k : Nat) : (xpOf k [] []).ini = [] := by
  unfold xpOf
  repeat' split
  all_goals first | rfl | simp_all
def XLen (s : RX) (n : Nat) : Prop := (s.stop = false → s.rs.length = n) ∧ (s.stop = true → 0 < s.rs.length ∧ s.rs.length ≤ n ∧ (s.rs.getD (s.rs.length - 1) ⟨0, [], false, false⟩).pan = true)
theorem XLen.step {p : XP} {s : RX} {n : Nat} (h : XLen s n) (x : Actn) : XLen (goX p s x) (n + 1) := by
  unfold goX
  cases hs : s.stop with
  | true =>
    rw [if_pos rfl]
    have := h.2 hs
    exact ⟨fun h0 => (by rw [hs] at h0; cases h0), fun _ => ⟨this.1, by omega, this.2.2⟩⟩
  | false =>
    rw [if_neg (by decide)]
    have := h.1 hs
    refine ⟨fun _ => by simp [this], fun h0 => ⟨by simp, by simp [this], ?_⟩⟩
    simp only at h0
    simp [List.getD_eq_getElem?_getD, h0]
theorem XLen.fold {p : XP} (xs : List Actn) : ∀ {s : RX} {n : Nat}, XLen s n → XLen (xs.foldl (goX p) s) (n + xs.length) := by
  induction xs with
  | nil => intro s n h; exact h
  | cons x xs ih =>
    intro s n h
    have := ih (h.step (p := p) x)
    rw [List.foldl_cons, List.length_cons]
    rw [show n + 1 + xs.length = n + (xs.length + 1) by omega] at this
    exact this
/-- a script has as many results as calls, or it ends with a panic -/
theorem runX_len (p : XP) (xs : List Actn) : (runX p xs).length = xs.length ∨ (0 < (runX p xs).length ∧ (runX p xs).length ≤ xs.length ∧ ((runX p xs).getD ((runX p xs).length - 1) ⟨0, [], false, false⟩).pan = true) := by
  have h : XLen (runXS p xs) (0 + xs.length) := XLen.fold xs ⟨fun _ => rfl, fun h => (by cases h)⟩
  rw [Nat.zero_add] at h
  cases hs : (runXS p xs).stop with
  | false => exact .inl (h.1 hs)
  | true => exact .inr (h.2 hs)
end Go.Sha
namespace Go.Proofs.YtmainjpffaebfaaGreat
open Go.ChangeShapes Go.WideShapes Go.ChangeAt Go.RowKit Go.Sha
theorem runPlain_any (kind : Int) (p : XP) (hp : p = xpOf (k5 kind) [] []) (w : World) (a : Option Addr) (n c : Nat) (xs : List Actn) (h : ActsAt w a n c xs) (hn : n ≤ 2999999999999) (hD : ∀ x ∈ xs, x.data.length ≤ 140737488351232) :
    Calls Tryz.prog 6 #[.int .i64 kind, .slice none 0 0, .slice none 0 0, .slice a n c] w (RunXR (runX p xs) w) := by
  rw [hp]
  exact runXofs_any w kind (⟨none, 0, 0, [], none, 0, 0, []⟩ : NC) a n c xs h ⟨Sl.nil0 _, Sl.nil0 _, (fun y hy => by cases hy), (fun y hy => by cases hy)⟩ (by simp) (by simp) hn (fun x hx => by
    have := hD x hx
    show _ + (207 + (xpOf (k5 kind) [] []).ini.length) ≤ _
    rw [xpOf_nil_ini, List.length_nil]
    omega)
end Go.Proofs.YtmainjpffaebfaaGreat
end
