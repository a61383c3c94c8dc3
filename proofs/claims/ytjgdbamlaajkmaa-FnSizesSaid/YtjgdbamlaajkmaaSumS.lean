/- SumSHAKE128 and SumSHAKE256 of the library hand back output of a sponge in new memory. Lengths below 2^40. -/
import Derived.Test.YtjgdbamlaajkmaaNew
import Derived.Test.YtjgdbamlaajkmaaOwn
namespace Go.Sha
open Go.RowKit
/-- the first bytes of output for bytes that were written -/
def xof (rate out : Nat) (ds : UInt8) (data : Bs) (k : Nat) : Bs := (squeeze k (padD (absorb (newD rate out ds) data))).1
theorem xof_length (rate out : Nat) (ds : UInt8) (data : Bs) (k : Nat) : (xof rate out ds data k).length = k := squeeze_length _ _
theorem Ow.of_splice {w : World} {g e c : Nat} {cur : Array Value} {l : Bs} (base : Nat) (hb : base ≤ g) (h : w.heap[g]? = some (.cells (splice cur 0 l) e (0, 0))) (hc : cur.size = c) (hl : l.length ≤ c) (hm : c ≤ maxLen) : Ow w base e (some ⟨g, 0, none⟩) c l := by
  refine ⟨by simp, .inr ⟨g, c, _, rfl, hb, h, hl, hm, by rw [splice_size _ _ _ (by omega)]; omega, ?_⟩⟩
  simp [splice]
end Go.Sha
namespace Go.Proofs.Ytjgdbamlaajkmaa
open Go.ChangeShapes Go.WideShapes Go.ChangeAt Go.RowKit Go.Sha

/-- L bytes of output in a slice of one's own -/
def RetX (base L : Nat) (l : Bs) (S : List Nat) (w : World) (e : Ending) (w' : World) : Prop := ∃ a c, e = .returned (.slice a L c) ∧ Ow w' base 5 a c l ∧ Fr S w w'

end Go.Proofs.Ytjgdbamlaajkmaa
