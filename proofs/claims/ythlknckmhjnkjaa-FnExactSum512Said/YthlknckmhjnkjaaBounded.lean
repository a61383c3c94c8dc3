/- bounded and same of the laws. No condition. -/
import Derived.Test.YthlknckmhjnkjaaOwn
import Derived.Test.YthlknckmhjnkjaaSame
namespace Go.Sha
theorem Ow.sl_at {w : World} {base e n c : Nat} {a : Option Addr} {l : Bs} (h : Ow w base e a c l) (hn : l.length = n) : Sl w a n c l := by subst hn; exact h.sl
end Go.Sha
namespace Go.Proofs.Ythlknckmhjnkjaa
open Go.ChangeShapes Go.WideShapes Go.ChangeAt Go.RowKit Go.Sha
theorem bounded_t (n : Int) (w : World) (h0 : 0 ≤ n) (h1 : n ≤ 65536) : Calls Try.prog 10 #[.int .i64 n] w fun e w' => e = .returned (.bool true) ∧ w = w' := by
  go_enter Try.func10, Try.ntmps10
  go_wp2
  go_ret
  exact ⟨by simp, rfl⟩
theorem bounded_f (n : Int) (w : World) (h : n < 0 ∨ 65536 < n) : Calls Try.prog 10 #[.int .i64 n] w fun e w' => e = .returned (.bool false) ∧ w = w' := by
  rcases h with h | h
  · have h0 : decide (0 ≤ n) = false := by simp; omega
    go_enter Try.func10, Try.ntmps10
    go_wp2
    go_ret
    exact ⟨by simp, rfl⟩
  · have h0 : decide (0 ≤ n) = true := by simp; omega
    go_enter Try.func10, Try.ntmps10
    go_wp2
    go_ret
    exact ⟨by simp; omega, rfl⟩
theorem same_t (a0 b0 : Option Addr) (n m ca cb : Nat) (x y : Bs) (w : World) (hx : Sl w a0 n ca x) (hy : Sl w b0 m cb y) (h : x = y) :
    Calls Try.prog 11 #[.slice a0 n ca, .slice b0 m cb] w (RetB true w) := by
  have := same_any a0 b0 n m ca cb x y w hx hy
  rwa [show (x == y) = true by simpa using h] at this

end Go.Proofs.Ythlknckmhjnkjaa
