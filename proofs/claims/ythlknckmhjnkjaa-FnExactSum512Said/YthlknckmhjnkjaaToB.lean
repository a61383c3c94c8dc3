/- toByteS of the exact laws: a copy in new memory. Lengths below 2^47. -/
import Derived.Test.YthlknckmhjnkjaaOwn
namespace Go.Proofs.Ythlknckmhjnkjaa
open Go.ChangeShapes Go.WideShapes Go.ChangeAt Go.RowKit Go.Sha

def CopyRel (w : World) (l : Bs) (n : Nat) (i : Value) (wr : World) : Prop :=
  ∃ k : Nat, k ≤ n ∧ i = .int .i64 k ∧ Ow wr w.heap.size 5 (some ⟨w.heap.size, 0, none⟩) n (l.take k ++ List.replicate (n - k) 0) ∧ Fr [] w wr
theorem copy_len (l : Bs) (n k : Nat) (hl : l.length = n) (hk : k ≤ n) : (l.take k ++ List.replicate (n - k) (0 : UInt8)).length = n := by simp; omega
theorem copy_set (l : Bs) (n k : Nat) (hl : l.length = n) (hk : k < n) : (l.take k ++ List.replicate (n - k) (0 : UInt8)).set k (l.getD k 0) = l.take (k + 1) ++ List.replicate (n - (k + 1)) 0 := by
  rw [List.set_append_right _ _ (by simp; omega), List.take_succ_eq_append_getElem (by omega), getD_at l k (by omega)]
  simp only [List.length_take, Nat.min_eq_left (show k ≤ l.length by omega), Nat.sub_self, List.append_assoc]
  rw [show n - k = (n - (k + 1)) + 1 by omega, List.replicate_succ, List.set_cons_zero]
  rfl

set_option maxHeartbeats 400000 in
theorem toByteS_any (a0 : Option Addr) (n c : Nat) (l : Bs) (w : World) (h : Sl w a0 n c l) (hn : n ≤ 140737488355328) :
    Calls Try.prog 18 #[.slice a0 n c] w (RetO 5 l w) := by
  have hmk := make_bytes n hn
  have HM := Lib.hid (Ow.made w n 5 (by unfold maxLen; omega))
  go_enter Try.func18, Try.ntmps18
  go_wp2
  clear hmk
  go_loopw [4] (fun i wr => CopyRel w l n i wr) (fun i _ => n - (intOf i).toNat)
  case atStart => exact ⟨0, Nat.zero_le _, rfl, by simpa using HM.out, (Fr.refl _ _).alloc _⟩
  case round =>
    obtain ⟨k, hk, rfl, ho, hf⟩ := hrel
    clear HM
    have hl := copy_len l n k h.len hk
    have HL := Lib.hid hl
    clear hl
    by_cases hlt : k < n
    · rcases h.cel with h0 | ⟨b, o, rfl, hcx⟩
      · omega
      have q1 := hf.cell (hcx k hlt) (by simp)
      have q2 := ho.cell (k := k) (by rw [HL.out]; exact hlt)
      have q3 := q2.2
      replace q2 := q2.1
      generalize hX : l.getD k 0 = X at q1
      have HX := Lib.hid hX
      generalize hY : (l.take k ++ List.replicate (n - k) 0).getD k 0 = Y at q2
      clear hX hY hcx
      go_wp2
      refine ⟨⟨k + 1, hlt, by simp, ?_, hf.setCell _ _ (.inl (Nat.le_refl _))⟩, by simp [intOf]; omega⟩
      have := ho.set (k := k) (by rw [HL.out]; exact hlt) X
      rw [← HX.out, copy_set l n k h.len hlt] at this
      rw [← HX.out]
      exact this
    · go_wp2
      go_ret
      obtain rfl : k = n := by omega
      have hln := h.len
      subst hln
      simp only [List.take_length, Nat.sub_self, List.replicate_zero, List.append_nil] at ho
      exact ⟨_, _, rfl, ho, hf⟩
end Go.Proofs.Ythlknckmhjnkjaa
