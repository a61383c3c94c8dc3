/- bounded and same of the laws. No condition. -/
import Derived.Test.YtjgdbamlaajkmaaOwn
import Derived.Test.YtjgdbamlaajkmaaSame
namespace Go.Sha
theorem Ow.sl_at {w : World} {base e n c : Nat} {a : Option Addr} {l : Bs} (h : Ow w base e a c l) (hn : l.length = n) : Sl w a n c l := by subst hn; exact h.sl
end Go.Sha
namespace Go.Proofs.Ytjgdbamlaajkmaa
open Go.ChangeShapes Go.WideShapes Go.ChangeAt Go.RowKit Go.Sha
theorem same_t (a0 b0 : Option Addr) (n m ca cb : Nat) (x y : Bs) (w : World) (hx : Sl w a0 n ca x) (hy : Sl w b0 m cb y) (h : x = y) :
    Calls Try.prog 21 #[.slice a0 n ca, .slice b0 m cb] w (RetB true w) := by
  have := same_any a0 b0 n m ca cb x y w hx hy
  rwa [show (x == y) = true by simpa using h] at this

end Go.Proofs.Ytjgdbamlaajkmaa
