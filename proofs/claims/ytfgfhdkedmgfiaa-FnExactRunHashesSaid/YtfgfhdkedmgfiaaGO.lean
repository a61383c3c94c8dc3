/- Contracts and lemmas, merged: Sz. Their conditions stand in each. -/
import Derived.Test.YtfgfhdkedmgfiaaGA
import Derived.Test.YtfgfhdkedmgfiaaGB
import Derived.Test.YtfgfhdkedmgfiaaGC
import Derived.Test.YtfgfhdkedmgfiaaGG
import Derived.Test.YtfgfhdkedmgfiaaGH
section
namespace Go.Proofs.Ytfgfhdkedmgfiaa
open Go.ChangeShapes Go.WideShapes Go.ChangeAt Go.RowKit Go.Sha
theorem sizes_any (w : World) : Calls Try.prog 16 #[] w fun e w' => e = .returned (.slice (some ⟨w.heap.size, 0, none⟩) 5 5) ∧ w' = w.alloc (.cells #[.int .i64 28, .int .i64 32, .int .i64 48, .int .i64 64, .int .i64 32] 3) := by
  go_enter Try.func16, Try.ntmps16
  go_wp2_with fail
  go_ret
  exact ⟨rfl, rfl⟩
/-- the list of sizes lies in a new block -/
def SzAt (w : World) (g : Nat) : Prop := w.heap[g]? = some (.cells #[.int .i64 28, .int .i64 32, .int .i64 48, .int .i64 64, .int .i64 32] 3 (0, 0))
theorem SzAt.cell {w : World} {g : Nat} (h : SzAt w g) : ∀ k, k < 5 → w.cell? ⟨g, k, none⟩ = some (.int .i64 (oOf k : Int)) := fun k hk => by
  rw [cell_of h]
  obtain rfl | rfl | rfl | rfl | rfl : k = 0 ∨ k = 1 ∨ k = 2 ∨ k = 3 ∨ k = 4 := by omega
  all_goals rfl
theorem sizes_sz (w : World) : Calls Try.prog 16 #[] w fun e w' => ∃ g, e = .returned (.slice (some ⟨g, 0, none⟩) 5 5) ∧ w.heap.size ≤ g ∧ SzAt w' g ∧ Fr [] w w' :=
  (sizes_any w).mono fun e w' ⟨h1, h2⟩ => ⟨_, h1, Nat.le_refl _, by rw [h2]; exact Go.heap_alloc_new w _, by rw [h2]; exact (Fr.refl _ _).alloc _⟩
theorem hashBlock_any (kind : Int) (w : World) : Calls Try.prog 50 #[.int .i64 kind] w fun e w' => e = .returned (.int .i64 (rOf (k5 kind) : Int)) ∧ Fr [] w w' := by
  have hl := k5_lt kind
  have hk := k5_int kind
  have hro := ro_of (k5 kind) hl
  have hol : oOf (k5 kind) ≤ 64 := (rt_of _ hl).ole
  obtain ⟨k, hkk⟩ : ∃ k, k = k5 kind := ⟨_, rfl⟩
  rw [← hkk] at hl hk hro hol ⊢
  have HK := Lib.hid hk
  have HR := Lib.hid hro
  clear hk hkk hro
  go_enter Try.func50, Try.ntmps50
  go_wp2_with fail
  refine (sizes_sz w).mono ?_
  rintro e w1 ⟨g, rfl, hg, hz, f1⟩
  have q := hz.cell k hl
  clear hz
  go_wp2_with fail
  refine (mod_nat kind 5 k w1 (by decide) (by decide) HK.out).mono ?_
  rintro e w2 ⟨rfl, rfl⟩
  have hkl : (k : Int) < 5 := by omega
  generalize oOf k = o at q hol HR
  go_wp2_with fail
  go_ret
  exact ⟨ret_int (by have := HR.out; omega), f1⟩
end Go.Proofs.Ytfgfhdkedmgfiaa
end
