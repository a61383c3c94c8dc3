/- mod of the reference: the number in 0..m-1 that differs by a multiple of m. Numbers of moderate size. -/
import Derived.Test.YtjgdbamlaajkmaaRowW
namespace Go.Proofs.Ytjgdbamlaajkmaa
open Go.ChangeShapes Go.WideShapes Go.ChangeAt Go.RowKit Go.Sha

theorem tmod_add_emod (n m : Int) (hm : 0 < m) : (n.tmod m + m) % m = n % m := by
  rw [Int.add_emod_right]
  rw [Int.tmod_eq_emod]
  split
  · simp
  · have h : ((m.natAbs : Nat) : Int) = m := by omega
    rw [h, Int.sub_emod_right, Int.emod_emod_of_dvd _ (Int.dvd_refl m)]

theorem mod_any (n m : Int) (w : World) (h0 : 0 < m) (h1 : m ≤ 4611686018427387904) :
    Calls Try.prog 29 #[.int .i64 n, .int .i64 m] w fun e w' => e = .returned (.int .i64 (n % m)) ∧ w' = w := by
  have ht1 := Int.tmod_lt_of_pos n h0
  have ht2 : -m < n.tmod m := Int.lt_tmod_of_pos n h0
  have hm : ¬ m = 0 := by omega
  have hmz : (m == 0) = false := by rw [beq_eq_false_iff_ne]; exact hm
  go_enter Try.func29, Try.ntmps29
  go_wp2
  go_ret
  exact ⟨ret_int (tmod_add_emod n m h0), rfl⟩
theorem mod_nat (n m : Int) (k : Nat) (w : World) (h0 : 0 < m) (h1 : m ≤ 4611686018427387904) (hk : n % m = (k : Int)) :
    Calls Try.prog 29 #[.int .i64 n, .int .i64 m] w fun e w' => e = .returned (.int .i64 (k : Int)) ∧ w' = w := by
  have := mod_any n m w h0 h1
  rwa [hk] at this
theorem zero68r : ((Try.prog.info? 94).bind (·.zero)).map (·.cells) = some (List.replicate 1600 (Value.bool false)).toArray := by kernel_rfl
theorem zero68 : ((Try.prog.info? 94).bind (·.zero)).map (·.cells) = some (bcells 1600 fun _ => false) := by rw [zero68r, bcells_false]
theorem size68 : (Try.prog.info? 94).map (·.size) = some 1600 := by kernel_rfl
end Go.Proofs.Ytjgdbamlaajkmaa
