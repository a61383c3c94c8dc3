/- Plain lemmas for comparisons byte by byte. No condition. -/
import Derived.Test.YtjgdbamlaajkmaaOwn
namespace Go.Proofs.Ytjgdbamlaajkmaa
open Go.ChangeShapes Go.WideShapes Go.ChangeAt Go.RowKit Go.Sha

/-- the first k bytes are the same -/
def SameRel (w : World) (x y : Bs) (n : Nat) (i : Value) (wr : World) : Prop :=
  ∃ k : Nat, k ≤ n ∧ i = .int .i64 k ∧ x.take k = y.take k ∧ Fr [] w wr
theorem take_snoc_eq {x y : Bs} {k n : Nat} (hx : x.length = n) (hy : y.length = n) (h : k < n) (ht : x.take k = y.take k) (he : x.getD k 0 = y.getD k 0) : x.take (k + 1) = y.take (k + 1) := by
  rw [List.take_succ_eq_append_getElem (by omega), List.take_succ_eq_append_getElem (by omega), ht, ← getD_at x k (by omega), ← getD_at y k (by omega), he]
theorem same_no {x y : Bs} {k : Nat} (he : ¬ x.getD k 0 = y.getD k 0) : (x == y) = false := by
  rw [beq_eq_false_iff_ne]
  rintro rfl
  exact he rfl
theorem same_yes {x y : Bs} {n : Nat} (hx : x.length = n) (hy : y.length = n) (ht : x.take n = y.take n) : (x == y) = true := by
  rw [beq_iff_eq]
  rwa [List.take_of_length_le (by omega), List.take_of_length_le (by omega)] at ht
theorem same_len {x y : Bs} {n m : Nat} (hx : x.length = n) (hy : y.length = m) (h : n ≠ m) : (x == y) = false := by
  rw [beq_eq_false_iff_ne]
  rintro rfl
  exact h (hx.symm.trans hy)
theorem nat_ne {a b : UInt8} (h : ¬ a = b) : ((a.toNat : Int) != (b.toNat : Int)) = true := by
  rw [bne_iff_ne]
  intro e
  exact h (UInt8.toNat_inj.1 (by omega))
theorem nat_eq {a b : UInt8} (h : a = b) : ((a.toNat : Int) != (b.toNat : Int)) = false := by
  subst h; simp

end Go.Proofs.Ytjgdbamlaajkmaa
