/- pi of the reference, lane by lane. No condition. -/
import Derived.Test.YthlknckmhjnkjaaChi
import Derived.Test.YthlknckmhjnkjaaPart
namespace Go.Sha
/-- pi on the cube, laid flat -/
def piC (c : Nat → Bool) (i : Nat) : Bool := c ((i / 320 + 3 * (i % 320 / 64)) % 5 * 320 + i / 320 * 64 + i % 64)
theorem piC_at {c : Nat → Bool} (X Y z : Nat) (hY : Y < 5) (hz : z < 64) : piC c (X * 320 + Y * 64 + z) = c ((X + 3 * Y) % 5 * 320 + X * 64 + z) := by
  unfold piC
  rw [show (X * 320 + Y * 64 + z) / 320 = X by omega, show (X * 320 + Y * 64 + z) % 64 = z by omega, show (X * 320 + Y * 64 + z) % 320 = Y * 64 + z by omega, show (Y * 64 + z) / 64 = Y by omega]
end Go.Sha
namespace Go.Proofs.Ythlknckmhjnkjaa
open Go.ChangeShapes Go.WideShapes Go.ChangeAt Go.RowKit Go.Sha
theorem size65 : (Try.prog.info? 65).map (·.size) = some 64 := by kernel_rfl
/-- one lane more -/
theorem CuRel.lane {F : (Nat → Bool) → Nat → Bool} {w : World} {c : Nat → Bool} {k : Nat} {wr : World} (h : CuRel F w c k wr) (hk : k + 64 ≤ 1600) (v : Nat → Bool) (hv : ∀ z, z < 64 → v z = F c (k + z)) :
    CuRel F w c (k + 64) (wr.setRow (w.heap.size + 1 + 1) (bcells 1600 (updN (fun i => if i < k then F c i else false) k 64 v))) := by
  obtain ⟨h1, h2, h3, h4⟩ := h
  refine ⟨h1.other_row (by omega) _, h2.other_row (by omega) _, (h3.setRow _).congr (fun i _ => ?_), h4.setRow _ _ (.inl (by omega))⟩
  simp only [updN]
  by_cases e : i < k
  · rw [if_neg (by omega), if_pos e, if_pos (by omega)]
  · by_cases e2 : i < k + 64
    · rw [if_pos (by omega), if_pos e2, hv _ (by omega), show k + (i - k) = i by omega]
    · rw [if_neg (by omega), if_neg e, if_neg e2]
attribute [local irreducible] wpStill
set_option maxRecDepth 100000 in
set_option maxHeartbeats 2000000 in
theorem pi_any (c : Nat → Bool) (w : World) : Calls Try.prog 68 #[aggB 1600 c] w fun e w' => e = .returned (aggB 1600 (piC c)) ∧ Fr [] w w' := by
  unfold aggB
  have H0 := Lib.hid (CuRel.start piC w c)
  go_enter Try.func68, Try.ntmps68
  go_wp2_with (first | (with_reducible refine wpList_box_row rfl _ _ rfl _ rfl ?_) | (with_reducible refine wpList_alloc_row rfl _ rfl _ zero68 ?_))
  go_loopw [4] (fun x wr => InRel (CuRel piC w c) 5 (fun X => X * 320) x wr) (fun x _ => 5 - (intOf x).toNat)
  case atStart => exact InRel.mk 0 0 (by omega) rfl rfl H0.out
  case round =>
    clear H0
    obtain ⟨X, hX, rfl, hR⟩ := hrel
    by_cases hlt : X < 5
    · go_wp2
      go_loopw [5] (fun y wr => InRel (CuRel piC w c) 5 (fun Y => X * 320 + Y * 64) y wr) (fun y _ => 5 - (intOf y).toNat)
      case atStart => exact InRel.mk 0 (X * 320) (by omega) rfl (by omega) hR
      case round =>
        clear hR
        obtain ⟨Y, hY, rfl, hR⟩ := hrel
        by_cases hlt2 : Y < 5
        · go_wp2
          refine wp_region_still_tail 13 (by kernel_rfl) (by kernel_rfl) ?_
          have R2 : CuRel piC w c (X * 320 + Y * 64) wr.drew := ⟨hR.1, hR.2.1, hR.2.2.1, hR.2.2.2.drew⟩
          change wpStill Try.prog _ wr.drew (fun a' => wpList Try.prog _ _ _ a' wr.drew) _ _
          generalize wr.drew = w2 at R2 ⊢
          clear hR
          have b1 : (X : Int) < 5 := by omega
          have b2 : (Y : Int) < 5 := by omega
          obtain ⟨X1, hX1⟩ : ∃ X1, X1 = (X + 3 * Y) % 5 := ⟨_, rfl⟩
          have b4 : (X1 : Int) < 5 := by omega
          have m1 : Hid (((X : Int) + 3 * (Y : Int)) % 5 = (X1 : Int)) := by show _ = _; omega
          have hv : Hid (X1 < 5 ∧ X1 = (X + 3 * Y) % 5) := ⟨by omega, hX1⟩
          clear hX1
          have hw1 : IntKind.i64.wrap (3 * (Y : Int)) = 3 * (Y : Int) := IntWalk.i64_in _ (by omega)
          have hw2 : IntKind.i64.wrap ((X : Int) + 3 * (Y : Int)) = (X : Int) + 3 * (Y : Int) := IntWalk.i64_in _ (by omega)
          simp only [List.take_succ_cons, List.take_zero, List.drop_succ_cons, List.drop_zero]
          repeat still_step
          still_call (mod_nat ((X : Int) + 3 * (Y : Int)) 5 X1 w2 (by decide) (by decide) m1.out)
          iterate 3 still_step
          refine wpStill_load_part rfl _ _ rfl w.heap.size (X1 * 320 + X * 64) rfl R2.1 64 (by have := hv.out.1; omega) _ Try.underlying65 rfl size65 ?_
          simp only [Act.put]
          iterate 2 still_step
          refine wpStill_nil ?_
          clear hw1 hw2
          refine wpList_store_part rfl _ _ _ rfl (w.heap.size + 1 + 1) (X * 320 + Y * 64) rfl rfl R2.2.2.1 (by omega) size65 ?_
          have R3 : CuRel piC w c (X * 320 + Y * 64 + 64) (w2.setRow (w.heap.size + 1 + 1) (bcells 1600 (updN (fun i => if i < X * 320 + Y * 64 then piC c i else false) (X * 320 + Y * 64) 64 (fun i => c (X1 * 320 + X * 64 + i))))) := R2.lane (by omega) _ (fun z hz => by rw [hv.out.2, piC_at X Y z hlt2 hz])
          generalize w2.setRow (w.heap.size + 1 + 1) (bcells 1600 (updN (fun i => if i < X * 320 + Y * 64 then piC c i else false) (X * 320 + Y * 64) 64 (fun i => c (X1 * 320 + X * 64 + i)))) = w3 at R3 ⊢
          clear R2
          go_wp2_with fail
          exact ⟨InRel.mk (Y + 1) (X * 320 + Y * 64 + 64) hlt2 (by simp) (by omega) R3, by simp [intOf]; omega⟩
        · go_wp2
          exact ⟨InRel.mk (X + 1) (X * 320 + Y * 64) (by omega) (by simp) (by omega) hR, by simp [intOf]; omega⟩
    · obtain rfl : X = 5 := by omega
      obtain ⟨h1, h2, h3, h4⟩ := hR
      have H3 : Hid (wr.heap[w.heap.size + 1 + 1]? = some (.cells (bcells 1600 (piC c)) 68 (0, 0))) := h3.congr (fun i hi => by rw [if_pos (by omega)])
      have H2 := Lib.hid h2
      clear h1 h2 h3
      go_wp2_with (refine wpList_load_row rfl _ _ rfl _ rfl _ _ _ _ H3.out Try.underlying68 rfl (by rw [bcells_size]; exact size68) ?_; refine Hid.out ?_)
      show wpList _ _ _ _ _ _
      refine wpList_store_bits rfl _ _ _ rfl (w.heap.size + 1) rfl 68 (bcells 1600 (piC c)) (bcells 1600 fun _ => false) rfl H2.out (by rw [bcells_size, bcells_size]) (bcells_one _ _) (by rw [bcells_size]; exact size68) ?_
      go_wp2_with fail
      have H4 : (wr.setRow (w.heap.size + 1) (bcells 1600 (piC c))).heap[w.heap.size + 1]? = some (.cells (bcells 1600 (piC c)) 68 (0, 0)) := setRow_heap _ _ _ _ _ _ H2.out
      refine bodyPost_ret (v := .agg (bcells 1600 (piC c))) ?_ ?_ ?_
      · exact results_cell_row rfl _ _ (w.heap.size + 1) _ _ _ _ rfl H4 Try.underlying68 rfl (by rw [bcells_size]; exact size68)
      · rfl
      exact ⟨rfl, h4.setRow _ _ (.inl (by omega))⟩
end Go.Proofs.Ythlknckmhjnkjaa
