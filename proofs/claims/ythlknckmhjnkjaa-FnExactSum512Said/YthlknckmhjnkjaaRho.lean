/- rho of the reference, cell by cell. No condition. -/
import Derived.Test.YthlknckmhjnkjaaChi
import Derived.Test.YthlknckmhjnkjaaPart
namespace Go.Sha
/-- when rho comes to the lane with the number 5 x + y -/
def rhoT (l : Nat) : Nat := [24, 7, 1, 13, 19, 0, 23, 3, 8, 10, 18, 2, 17, 4, 21, 6, 9, 16, 5, 14, 12, 22, 20, 15, 11].getD l 24
/-- by how much rho turns the lane with the number 5 x + y -/
def rhoO (l : Nat) : Nat := [0, 36, 3, 41, 18, 1, 44, 10, 45, 2, 62, 6, 43, 15, 61, 28, 55, 25, 21, 56, 27, 20, 39, 8, 14].getD l 0
/-- rho on the cube, laid flat -/
def rhoC (c : Nat → Bool) (i : Nat) : Bool := c (i / 64 * 64 + (i % 64 + 64 - rhoO (i / 64)) % 64)
theorem rho_facts : ∀ l, l < 25 → rhoT l < 24 → rhoO l = (rhoT l + 1) * (rhoT l + 2) / 2 % 64 := by decide
theorem rho_inj : ∀ l, l < 25 → ∀ k, k < 25 → rhoT l = rhoT k → l = k := by decide
theorem rho_next : ∀ x, x < 5 → ∀ y, y < 5 → rhoT (x * 5 + y) < 23 → rhoT (y * 5 + (2 * x + 3 * y) % 5) = rhoT (x * 5 + y) + 1 := by decide
theorem rho_zero : ∀ l, l < 25 → ¬ rhoT l < 24 → rhoO l = 0 := by decide
theorem rhoC_at {c : Nat → Bool} (X Y Z t : Nat) (ht : t < 24) (hX : X < 5) (hY : Y < 5) (hZ : Z < 64) (hT : rhoT (X * 5 + Y) = t) : rhoC c (X * 320 + Y * 64 + Z) = c (X * 320 + Y * 64 + (Z + 64 - (t + 1) * (t + 2) / 2 % 64) % 64) := by
  unfold rhoC
  rw [show (X * 320 + Y * 64 + Z) / 64 = X * 5 + Y by omega, show (X * 320 + Y * 64 + Z) % 64 = Z by omega, rho_facts (X * 5 + Y) (by omega) (by omega), hT, show (X * 5 + Y) * 64 = X * 320 + Y * 64 by omega]
end Go.Sha
namespace Go.Proofs.Ythlknckmhjnkjaa
open Go.ChangeShapes Go.WideShapes Go.ChangeAt Go.RowKit Go.Sha
/-- m steps of rho done -/
def RhRel (w : World) (c : Nat → Bool) (m : Nat) (wr : World) : Prop :=
  BoolsAt wr w.heap.size 68 1600 c ∧ BoolsAt wr (w.heap.size + 1) 68 1600 (fun _ => false) ∧ BoolsAt wr (w.heap.size + 1 + 1) 68 1600 (fun i => if rhoT (i / 64) * 64 + i % 64 < m then rhoC c i else c i) ∧ Fr [] w wr
theorem RhRel.drew {w : World} {c : Nat → Bool} {k : Nat} {wr : World} (h : RhRel w c k wr) : RhRel w c k wr.drew := ⟨h.1, h.2.1, h.2.2.1, h.2.2.2.drew⟩
theorem RhRel.step {w : World} {c : Nat → Bool} {m : Nat} {wr : World} (h : RhRel w c m wr) (X Y Z t : Nat) (hX : X < 5) (hY : Y < 5) (hZ : Z < 64) (ht : t < 24) (hT : rhoT (X * 5 + Y) = t) (hm : m = t * 64 + Z) (v : Bool) (hv : v = rhoC c (X * 320 + Y * 64 + Z)) :
    RhRel w c (m + 1) (wr.setCell ⟨w.heap.size + 1 + 1, X * 320 + Y * 64 + Z, none⟩ (.bool v)) := by
  obtain ⟨h1, h2, h3, h4⟩ := h
  refine ⟨h1.other (by omega) _, h2.other (by omega) _, (h3.set v).congr (fun j hj => ?_), h4.setCell _ _ (.inl (by simp; omega))⟩
  simp only [upd]
  by_cases e : j = X * 320 + Y * 64 + Z
  · subst e
    rw [if_pos rfl, hv, if_pos ?_]
    rw [show (X * 320 + Y * 64 + Z) / 64 = X * 5 + Y by omega, show (X * 320 + Y * 64 + Z) % 64 = Z by omega]
    omega
  · rw [if_neg e]
    have e2 : rhoT (j / 64) * 64 + j % 64 ≠ m := fun e3 => by
      have := rho_inj (j / 64) (by omega) (X * 5 + Y) (by omega) (by omega)
      omega
    by_cases h5 : rhoT (j / 64) * 64 + j % 64 < m
    · rw [if_pos h5, if_pos (by omega)]
    · rw [if_neg h5, if_neg (by omega)]
theorem RhRel.start (w : World) (c : Nat → Bool) :
    RhRel w c 0 ((((w.alloc (Obj.cells (bcells 1600 c) 68)).alloc (Obj.cells (bcells 1600 fun _ => false) 68)).alloc (Obj.cells (bcells 1600 fun _ => false) 68)).setRow (w.heap.size + 1 + 1) (bcells 1600 c)) := by
  obtain ⟨h1, h2, h3, h4⟩ := CuRel.start rhoC w c
  exact ⟨h1.other_row (by omega) _, h2.other_row (by omega) _, (h3.setRow c).congr (fun i _ => by rw [if_neg (by omega)]), h4.setRow _ _ (.inl (by omega))⟩
/-- x, y and t, and what holds there -/
def XyRel (w : World) (c : Nat → Bool) (x y t : Value) (wr : World) : Prop :=
  ∃ X Y T : Nat, x = .int .i64 X ∧ y = .int .i64 Y ∧ t = .int .i64 T ∧ X < 5 ∧ Y < 5 ∧ T ≤ 24 ∧ (T < 24 → rhoT (X * 5 + Y) = T) ∧ RhRel w c (T * 64) wr
theorem XyRel.mk {w : World} {c : Nat → Bool} {x y t : Value} {wr : World} (X Y T : Nat) (hx : x = .int .i64 X) (hy : y = .int .i64 Y) (ht : t = .int .i64 T) (h1 : X < 5) (h2 : Y < 5) (h3 : T ≤ 24) (h4 : T < 24 → rhoT (X * 5 + Y) = T) (h5 : RhRel w c (T * 64) wr) : XyRel w c x y t wr := ⟨X, Y, T, hx, hy, ht, h1, h2, h3, h4, h5⟩
attribute [local irreducible] wpStill
set_option maxRecDepth 100000 in
set_option maxHeartbeats 2000000 in
theorem rho_any (c : Nat → Bool) (w : World) : Calls Try.prog 69 #[aggB 1600 c] w fun e w' => e = .returned (aggB 1600 (rhoC c)) ∧ Fr [] w w' := by
  unfold aggB
  have H0 := Lib.hid (RhRel.start w c)
  have Hc := Lib.hid (CuRel.start rhoC w c)
  go_enter Try.func69, Try.ntmps69
  go_wp2_with (first | (with_reducible refine wpList_box_row rfl _ _ rfl _ rfl ?_) | (with_reducible refine wpList_alloc_row rfl _ rfl _ zero68 ?_) | (refine wpList_load_row rfl _ _ rfl w.heap.size rfl _ _ _ _ ((BoolsAt.new w 68 1600 c).alloc _) Try.underlying68 rfl (by rw [bcells_size]; exact size68) ?_; refine Hid.out ?_))
  show wpList _ _ _ _ _ _
  refine wpList_alloc_rowAt rfl _ rfl _ zero68 (w.heap.size + 1 + 1) (by simp) ?_
  refine wpList_store_bits rfl _ _ _ rfl (w.heap.size + 1 + 1) rfl 68 (bcells 1600 c) (bcells 1600 fun _ => false) rfl Hc.out.2.2.1 (by rw [bcells_size, bcells_size]) (bcells_one _ _) (by rw [bcells_size]; exact size68) ?_
  generalize World.setRow _ (w.heap.size + 1 + 1) (bcells 1600 c) = w1 at H0 ⊢
  go_wp2_with fail
  clear Hc
  go_loopw [4, 5, 6] (fun x y t wr => XyRel w c x y t wr) (fun _ _ t _ => 24 - (intOf t).toNat)
  case atStart => exact XyRel.mk 1 0 0 rfl rfl rfl (by omega) (by omega) (by omega) (fun _ => by decide) H0.out
  case round =>
    clear H0
    obtain ⟨X, Y, t, rfl, rfl, rfl, hX, hY, ht, hT, hR⟩ := hrel
    by_cases hlt : t < 24
    · replace hT := Lib.hid (hT hlt)
      have hd : decide ((t : Int) < 24) = true := by simp; omega
      go_wp2
      clear hd
      go_loopw [7] (fun z wr => InRel (RhRel w c) 64 (fun Z => t * 64 + Z) z wr) (fun z _ => 64 - (intOf z).toNat)
      case atStart => exact InRel.mk 0 (t * 64) (by omega) rfl (by omega) hR
      case round =>
        clear hR
        obtain ⟨Z, hZ, rfl, hR⟩ := hrel
        by_cases hlt3 : Z < 64
        · go_wp2
          refine wp_region_still_tail 21 (by kernel_rfl) (by kernel_rfl) ?_
          have R2 : RhRel w c (t * 64 + Z) wr.drew := hR.drew
          change wpStill Try.prog _ wr.drew (fun a' => wpList Try.prog _ _ _ a' wr.drew) _ _
          generalize wr.drew = w2 at R2 ⊢
          clear hR
          have b1 : (X : Int) < 5 := by omega
          have b2 : (Y : Int) < 5 := by omega
          have b3 : (Z : Int) < 64 := by omega
          obtain ⟨M, hM⟩ : ∃ M, M = (t + 1) * (t + 2) := ⟨_, rfl⟩
          have hM2 : M ≤ 25 * 26 := by rw [hM]; exact Nat.mul_le_mul (by omega) (by omega)
          obtain ⟨K, hK⟩ : ∃ K, K = (Z + 64 - M / 2 % 64) % 64 := ⟨_, rfl⟩
          have b4 : (K : Int) < 64 := by omega
          have hw1 : IntKind.i64.wrap ((t : Int) + 1) = (t : Int) + 1 := IntWalk.i64_in _ (by omega)
          have hw2 : IntKind.i64.wrap ((t : Int) + 2) = (t : Int) + 2 := IntWalk.i64_in _ (by omega)
          have hw3 : IntKind.i64.wrap (((t : Int) + 1) * ((t : Int) + 2)) = (M : Int) := by
            rw [hM, show ((t : Int) + 1) * ((t : Int) + 2) = (((t + 1) * (t + 2) : Nat) : Int) by push_cast; rfl]
            exact IntWalk.i64_in _ (by omega)
          have hq : Int.tdiv (M : Int) 2 = ((M / 2 : Nat) : Int) := by rw [Int.tdiv_eq_ediv_of_nonneg (by omega)]; omega
          have hw4 : IntKind.i64.wrap ((M / 2 : Nat) : Int) = ((M / 2 : Nat) : Int) := IntWalk.i64_in _ (by omega)
          have hw5 : IntKind.i64.wrap ((Z : Int) - ((M / 2 : Nat) : Int)) = (Z : Int) - ((M / 2 : Nat) : Int) := IntWalk.i64_in _ (by omega)
          have m1 : Hid (((Z : Int) - ((M / 2 : Nat) : Int)) % 64 = (K : Int)) := by show _ = _; omega
          have q0 := R2.1.cell (i := X * 320 + Y * 64 + K) (by omega)
          have q3 := R2.2.2.1.cell (i := X * 320 + Y * 64 + Z) (by omega)
          have q4 := R2.2.2.1.fz (X * 320 + Y * 64 + Z)
          have hv : Hid (rhoC c (X * 320 + Y * 64 + Z) = c (X * 320 + Y * 64 + K)) := by
            show _ = _
            rw [rhoC_at X Y Z t hlt (by omega) (by omega) (by omega) hT.out, ← hM, ← hK]
          clear hM hK hM2
          generalize c (X * 320 + Y * 64 + K) = v0 at q0 hv
          generalize (if rhoT ((X * 320 + Y * 64 + Z) / 64) * 64 + (X * 320 + Y * 64 + Z) % 64 < t * 64 + Z then rhoC c (X * 320 + Y * 64 + Z) else c (X * 320 + Y * 64 + Z)) = v3 at q3
          generalize M / 2 = Q at hq hw4 hw5 m1
          simp only [List.take_succ_cons, List.take_zero, List.drop_succ_cons, List.drop_zero]
          repeat still_step
          still_call (mod_nat ((Z : Int) - (Q : Int)) 64 K w2 (by decide) (by decide) m1.out)
          repeat still_step
          refine wpStill_nil ?_
          clear hw1 hw2 hw3 hw4 hw5 hq
          go_wp2_with fail
          have E := InRel.succ (R := RhRel w c) (f := fun Z => t * 64 + Z) hlt3 rfl (R2.step X Y Z t (by omega) (by omega) (by omega) hlt hT.out rfl _ hv.out.symm)
          exact E
        · go_wp2_with fail
          obtain ⟨K, hK⟩ : ∃ K, K = (2 * X + 3 * Y) % 5 := ⟨_, rfl⟩
          have m1 : (2 * (X : Int) + 3 * (Y : Int)) % 5 = (K : Int) := by omega
          refine (mod_nat _ 5 K wr (by decide) (by decide) m1).mono ?_
          rintro e w' ⟨rfl, rfl⟩
          clear m1
          replace hK := Lib.hid hK
          go_wp2_with fail
          replace hK := hK.out
          exact ⟨XyRel.mk Y K (t + 1) rfl rfl (by simp) hY (by omega) (by omega) (fun h => by rw [hK, rho_next X hX Y hY (by rw [hT.out]; omega), hT.out]) (by rw [show (t + 1) * 64 = t * 64 + Z by omega]; exact hR), by simp [intOf]; omega⟩
    · obtain rfl : t = 24 := by omega
      obtain ⟨h1, h2, h3, h4⟩ := hR
      have H3 : Hid (wr.heap[w.heap.size + 1 + 1]? = some (.cells (bcells 1600 (rhoC c)) 68 (0, 0))) := h3.congr (fun i hi => by
        by_cases h5 : rhoT (i / 64) < 24
        · rw [if_pos (by omega)]
        · rw [if_neg (by omega)]
          unfold rhoC
          rw [rho_zero (i / 64) (by omega) h5, show i / 64 * 64 + (i % 64 + 64 - 0) % 64 = i by omega])
      have H2 := Lib.hid h2
      clear h1 h2 h3
      go_wp2_with (refine wpList_load_row rfl _ _ rfl _ rfl _ _ _ _ H3.out Try.underlying68 rfl (by rw [bcells_size]; exact size68) ?_; refine Hid.out ?_)
      show wpList _ _ _ _ _ _
      refine wpList_store_bits rfl _ _ _ rfl (w.heap.size + 1) rfl 68 (bcells 1600 (rhoC c)) (bcells 1600 fun _ => false) rfl H2.out (by rw [bcells_size, bcells_size]) (bcells_one _ _) (by rw [bcells_size]; exact size68) ?_
      go_wp2_with fail
      have H4 : (wr.setRow (w.heap.size + 1) (bcells 1600 (rhoC c))).heap[w.heap.size + 1]? = some (.cells (bcells 1600 (rhoC c)) 68 (0, 0)) := setRow_heap _ _ _ _ _ _ H2.out
      refine bodyPost_ret (v := .agg (bcells 1600 (rhoC c))) ?_ ?_ ?_
      · exact results_cell_row rfl _ _ (w.heap.size + 1) _ _ _ _ rfl H4 Try.underlying68 rfl (by rw [bcells_size]; exact size68)
      · rfl
      exact ⟨rfl, h4.setRow _ _ (.inl (by omega))⟩
end Go.Proofs.Ythlknckmhjnkjaa
