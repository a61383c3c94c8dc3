/- Contracts and lemmas, merged: Xo. Their conditions stand in each. -/
import Derived.Test.YtkijnpjefccepaaGA
import Derived.Test.YtkijnpjefccepaaGB
import Derived.Test.YtkijnpjefccepaaGC
import Derived.Test.YtkijnpjefccepaaGG
import Derived.Test.YtkijnpjefccepaaGH
import Derived.Test.YtkijnpjefccepaaGX
section
namespace Go.Sha
/-- the rate of a kind -/
def xR (k : Nat) : Nat := [168, 136, 136, 168, 136].getD k 136
theorem xpOf_r (k : Nat) (hk : k < 5) (n s : Bs) : (xpOf k n s).r = xR k := by
  unfold xpOf
  obtain rfl | rfl | rfl | rfl | rfl : k = 0 ∨ k = 1 ∨ k = 2 ∨ k = 3 ∨ k = 4 := by omega
  · rfl
  · rfl
  · rfl
  · rw [if_neg (by decide), if_neg (by decide)]
    split <;> rfl
  · rw [if_neg (by decide), if_neg (by decide)]
    split <;> rfl
end Go.Sha
namespace Go.Proofs.Ytkijnpjefccepaa
open Go.ChangeShapes Go.WideShapes Go.ChangeAt Go.RowKit Go.Sha
theorem xofBlock_any (kind : Int) (w : World) : Calls Try.prog 22 #[.int .i64 kind] w fun e w' => e = .returned (.int .i64 (xR (k5 kind) : Int)) ∧ Fr [] w w' := by
  have hl := k5_lt kind
  have hk := k5_int kind
  obtain ⟨k, hkk⟩ : ∃ k, k = k5 kind := ⟨_, rfl⟩
  rw [← hkk] at hl hk ⊢
  have HK := Lib.hid hk
  clear hk hkk
  have f1 : Fr [] w (w.alloc (.cells #[.int .i64 168, .int .i64 136, .int .i64 136, .int .i64 168, .int .i64 136] 3)) := (Fr.refl _ _).alloc _
  have q : (w.alloc (.cells #[.int .i64 168, .int .i64 136, .int .i64 136, .int .i64 168, .int .i64 136] 3)).cell? ⟨w.heap.size, k, none⟩ = some (.int .i64 (xR k : Int)) := by
    rw [cell_of (Go.heap_alloc_new w _)]
    obtain rfl | rfl | rfl | rfl | rfl : k = 0 ∨ k = 1 ∨ k = 2 ∨ k = 3 ∨ k = 4 := by omega
    all_goals rfl
  have hkl : (k : Int) < 5 := by omega
  go_enter Try.func22, Try.ntmps22
  go_wp2_with fail
  generalize w.alloc (.cells #[.int .i64 168, .int .i64 136, .int .i64 136, .int .i64 168, .int .i64 136] 3) = w1 at f1 q ⊢
  refine (mod_nat kind 5 k w1 (by decide) (by decide) HK.out).mono ?_
  rintro e w2 ⟨rfl, rfl⟩
  go_wp2_with fail
  go_ret
  exact ⟨rfl, f1⟩
end Go.Proofs.Ytkijnpjefccepaa
end
