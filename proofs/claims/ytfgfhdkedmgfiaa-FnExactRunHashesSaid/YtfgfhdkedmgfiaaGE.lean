/- Contracts and lemmas, merged: Pi, Rho, Rc, Iota, BitsOf, BytesOf, Padded, PermB, Sponge, Kec, KecB. Their conditions stand in each. -/
import Derived.Test.YtfgfhdkedmgfiaaGA
import Derived.Test.YtfgfhdkedmgfiaaGB
import Derived.Test.YtfgfhdkedmgfiaaGD
import Derived.Deep.RegionHeld3
import Derived.Deep.RegionLaw
section
namespace Go.Sha
/-- pi on the cube, laid flat -/
def piC (c : Nat → Bool) (i : Nat) : Bool := c ((i / 320 + 3 * (i % 320 / 64)) % 5 * 320 + i / 320 * 64 + i % 64)
theorem piC_at {c : Nat → Bool} (X Y z : Nat) (hY : Y < 5) (hz : z < 64) : piC c (X * 320 + Y * 64 + z) = c ((X + 3 * Y) % 5 * 320 + X * 64 + z) := by
  unfold piC
  rw [show (X * 320 + Y * 64 + z) / 320 = X by omega, show (X * 320 + Y * 64 + z) % 64 = z by omega, show (X * 320 + Y * 64 + z) % 320 = Y * 64 + z by omega, show (Y * 64 + z) / 64 = Y by omega]
end Go.Sha
namespace Go.Proofs.Ytfgfhdkedmgfiaa
open Go.ChangeShapes Go.WideShapes Go.ChangeAt Go.RowKit Go.Sha
theorem size65 : (Try.prog.info? 119).map (·.size) = some 64 := by kernel_rfl
/-- one lane more -/
theorem CuRel.lane {F : (Nat → Bool) → Nat → Bool} {w : World} {c : Nat → Bool} {k : Nat} {wr : World} (h : CuRel F w c k wr) (_hk : k + 64 ≤ 1600) (v : Nat → Bool) (hv : ∀ z, z < 64 → v z = F c (k + z)) :
    CuRel F w c (k + 64) (wr.setRow (w.heap.size + 1 + 1) (bcells 1600 (updN (fun i => if i < k then F c i else false) k 64 v))) := by
  obtain ⟨h1, h2, h3, h4⟩ := h
  refine ⟨h1.other_row (by omega) _, h2.other_row (by omega) _, (h3.setRow _).congr (fun i _ => ?_), h4.setRow _ _ (.inl (by omega))⟩
  simp only [updN]
  by_cases e : i < k
  · rw [if_neg (by omega), if_pos e, if_pos (by omega)]
  · by_cases e2 : i < k + 64
    · rw [if_pos (by omega), if_pos e2, hv _ (by omega), show k + (i - k) = i by omega]
    · rw [if_neg (by omega), if_neg e, if_neg e2]
attribute [local irreducible] wpStill
set_option maxRecDepth 100000 in
set_option maxHeartbeats 2000000 in
theorem pi_any (c : Nat → Bool) (w : World) : Calls Try.prog 109 #[aggB 1600 c] w fun e w' => e = .returned (aggB 1600 (piC c)) ∧ Fr [] w w' := by
  unfold aggB
  have H0 := Lib.hid (CuRel.start piC w c)
  go_enter Try.func109, Try.ntmps109
  go_wp2_with (first | (with_reducible refine wpList_box_row rfl _ _ rfl _ rfl ?_) | (with_reducible refine wpList_alloc_row rfl _ rfl _ zero68 ?_))
  go_loopw [4] (fun x wr => InRel (CuRel piC w c) 5 (fun X => X * 320) x wr) (fun x _ => 5 - (intOf x).toNat)
  case atStart => exact InRel.mk 0 0 (by omega) rfl rfl H0.out
  case round =>
    clear H0
    obtain ⟨X, hX, rfl, hR⟩ := hrel
    by_cases hlt : X < 5
    · go_wp2
      go_loopw [5] (fun y wr => InRel (CuRel piC w c) 5 (fun Y => X * 320 + Y * 64) y wr) (fun y _ => 5 - (intOf y).toNat)
      case atStart => exact InRel.mk 0 (X * 320) (by omega) rfl (by omega) hR
      case round =>
        clear hR
        obtain ⟨Y, hY, rfl, hR⟩ := hrel
        by_cases hlt2 : Y < 5
        · go_wp2
          refine wp_region_still_tail 13 (by kernel_rfl) (by kernel_rfl) ?_
          have R2 : CuRel piC w c (X * 320 + Y * 64) wr.drew := ⟨hR.1, hR.2.1, hR.2.2.1, hR.2.2.2.drew⟩
          change wpStill Try.prog _ wr.drew (fun a' => wpList Try.prog _ _ _ a' wr.drew) _ _
          generalize wr.drew = w2 at R2 ⊢
          clear hR
          have b1 : (X : Int) < 5 := by omega
          have b2 : (Y : Int) < 5 := by omega
          obtain ⟨X1, hX1⟩ : ∃ X1, X1 = (X + 3 * Y) % 5 := ⟨_, rfl⟩
          have b4 : (X1 : Int) < 5 := by omega
          have m1 : Hid (((X : Int) + 3 * (Y : Int)) % 5 = (X1 : Int)) := by show _ = _; omega
          have hv : Hid (X1 < 5 ∧ X1 = (X + 3 * Y) % 5) := ⟨by omega, hX1⟩
          clear hX1
          have hw1 : IntKind.i64.wrap (3 * (Y : Int)) = 3 * (Y : Int) := IntWalk.i64_in _ (by omega)
          have hw2 : IntKind.i64.wrap ((X : Int) + 3 * (Y : Int)) = (X : Int) + 3 * (Y : Int) := IntWalk.i64_in _ (by omega)
          simp only [List.take_succ_cons, List.take_zero, List.drop_succ_cons, List.drop_zero]
          repeat still_step
          still_call (mod_nat ((X : Int) + 3 * (Y : Int)) 5 X1 w2 (by decide) (by decide) m1.out)
          iterate 3 still_step
          refine wpStill_load_part rfl _ _ rfl w.heap.size (X1 * 320 + X * 64) rfl R2.1 64 (by have := hv.out.1; omega) _ Try.underlying119 rfl size65 ?_
          simp only [Act.put]
          iterate 2 still_step
          refine wpStill_nil ?_
          clear hw1 hw2
          refine wpList_store_part rfl _ _ _ rfl (w.heap.size + 1 + 1) (X * 320 + Y * 64) rfl rfl R2.2.2.1 (by omega) size65 ?_
          have R3 : CuRel piC w c (X * 320 + Y * 64 + 64) (w2.setRow (w.heap.size + 1 + 1) (bcells 1600 (updN (fun i => if i < X * 320 + Y * 64 then piC c i else false) (X * 320 + Y * 64) 64 (fun i => c (X1 * 320 + X * 64 + i))))) := R2.lane (by omega) _ (fun z hz => by rw [hv.out.2, piC_at X Y z hlt2 hz])
          generalize w2.setRow (w.heap.size + 1 + 1) (bcells 1600 (updN (fun i => if i < X * 320 + Y * 64 then piC c i else false) (X * 320 + Y * 64) 64 (fun i => c (X1 * 320 + X * 64 + i)))) = w3 at R3 ⊢
          clear R2
          go_wp2_with fail
          exact ⟨InRel.mk (Y + 1) (X * 320 + Y * 64 + 64) hlt2 (by simp) (by omega) R3, by simp [intOf]; omega⟩
        · go_wp2
          exact ⟨InRel.mk (X + 1) (X * 320 + Y * 64) (by omega) (by simp) (by omega) hR, by simp [intOf]; omega⟩
    · obtain rfl : X = 5 := by omega
      obtain ⟨h1, h2, h3, h4⟩ := hR
      have H3 : Hid (wr.heap[w.heap.size + 1 + 1]? = some (.cells (bcells 1600 (piC c)) 122 (0, 0))) := h3.congr (fun i hi => by rw [if_pos (by omega)])
      have H2 := Lib.hid h2
      clear h1 h2 h3
      go_wp2_with (refine wpList_load_row rfl _ _ rfl _ rfl _ _ _ _ H3.out Try.underlying122 rfl (by rw [bcells_size]; exact size68) ?_; refine Hid.out ?_)
      show wpList _ _ _ _ _ _
      refine wpList_store_bits rfl _ _ _ rfl (w.heap.size + 1) rfl 122 (bcells 1600 (piC c)) (bcells 1600 fun _ => false) rfl H2.out (by rw [bcells_size, bcells_size]) (bcells_one _ _) (by rw [bcells_size]; exact size68) ?_
      go_wp2_with fail
      have H4 : (wr.setRow (w.heap.size + 1) (bcells 1600 (piC c))).heap[w.heap.size + 1]? = some (.cells (bcells 1600 (piC c)) 122 (0, 0)) := setRow_heap _ _ _ _ _ _ H2.out
      refine bodyPost_ret (v := .agg (bcells 1600 (piC c))) ?_ ?_ ?_
      · exact results_cell_row rfl _ _ (w.heap.size + 1) _ _ _ _ rfl H4 Try.underlying122 rfl (by rw [bcells_size]; exact size68)
      · rfl
      exact ⟨rfl, h4.setRow _ _ (.inl (by omega))⟩
end Go.Proofs.Ytfgfhdkedmgfiaa
end

section
namespace Go.Sha
/-- when rho comes to the lane with the number 5 x + y -/
def rhoT (l : Nat) : Nat := [24, 7, 1, 13, 19, 0, 23, 3, 8, 10, 18, 2, 17, 4, 21, 6, 9, 16, 5, 14, 12, 22, 20, 15, 11].getD l 24
/-- by how much rho turns the lane with the number 5 x + y -/
def rhoO (l : Nat) : Nat := [0, 36, 3, 41, 18, 1, 44, 10, 45, 2, 62, 6, 43, 15, 61, 28, 55, 25, 21, 56, 27, 20, 39, 8, 14].getD l 0
/-- rho on the cube, laid flat -/
def rhoC (c : Nat → Bool) (i : Nat) : Bool := c (i / 64 * 64 + (i % 64 + 64 - rhoO (i / 64)) % 64)
theorem rho_facts : ∀ l, l < 25 → rhoT l < 24 → rhoO l = (rhoT l + 1) * (rhoT l + 2) / 2 % 64 := by decide
theorem rho_inj : ∀ l, l < 25 → ∀ k, k < 25 → rhoT l = rhoT k → l = k := by decide
theorem rho_next : ∀ x, x < 5 → ∀ y, y < 5 → rhoT (x * 5 + y) < 23 → rhoT (y * 5 + (2 * x + 3 * y) % 5) = rhoT (x * 5 + y) + 1 := by decide
theorem rho_zero : ∀ l, l < 25 → ¬ rhoT l < 24 → rhoO l = 0 := by decide
theorem rhoC_at {c : Nat → Bool} (X Y Z t : Nat) (ht : t < 24) (hX : X < 5) (hY : Y < 5) (hZ : Z < 64) (hT : rhoT (X * 5 + Y) = t) : rhoC c (X * 320 + Y * 64 + Z) = c (X * 320 + Y * 64 + (Z + 64 - (t + 1) * (t + 2) / 2 % 64) % 64) := by
  unfold rhoC
  rw [show (X * 320 + Y * 64 + Z) / 64 = X * 5 + Y by omega, show (X * 320 + Y * 64 + Z) % 64 = Z by omega, rho_facts (X * 5 + Y) (by omega) (by omega), hT, show (X * 5 + Y) * 64 = X * 320 + Y * 64 by omega]
end Go.Sha
namespace Go.Proofs.Ytfgfhdkedmgfiaa
open Go.ChangeShapes Go.WideShapes Go.ChangeAt Go.RowKit Go.Sha
/-- m steps of rho done -/
def RhRel (w : World) (c : Nat → Bool) (m : Nat) (wr : World) : Prop :=
  BoolsAt wr w.heap.size 122 1600 c ∧ BoolsAt wr (w.heap.size + 1) 122 1600 (fun _ => false) ∧ BoolsAt wr (w.heap.size + 1 + 1) 122 1600 (fun i => if rhoT (i / 64) * 64 + i % 64 < m then rhoC c i else c i) ∧ Fr [] w wr
theorem RhRel.drew {w : World} {c : Nat → Bool} {k : Nat} {wr : World} (h : RhRel w c k wr) : RhRel w c k wr.drew := ⟨h.1, h.2.1, h.2.2.1, h.2.2.2.drew⟩
theorem RhRel.step {w : World} {c : Nat → Bool} {m : Nat} {wr : World} (h : RhRel w c m wr) (X Y Z t : Nat) (hX : X < 5) (hY : Y < 5) (hZ : Z < 64) (_ht : t < 24) (hT : rhoT (X * 5 + Y) = t) (hm : m = t * 64 + Z) (v : Bool) (hv : v = rhoC c (X * 320 + Y * 64 + Z)) :
    RhRel w c (m + 1) (wr.setCell ⟨w.heap.size + 1 + 1, X * 320 + Y * 64 + Z, none⟩ (.bool v)) := by
  obtain ⟨h1, h2, h3, h4⟩ := h
  refine ⟨h1.other (by omega) _, h2.other (by omega) _, (h3.set v).congr (fun j hj => ?_), h4.setCell _ _ (.inl (by simp; omega))⟩
  simp only [upd]
  by_cases e : j = X * 320 + Y * 64 + Z
  · subst e
    rw [if_pos rfl, hv, if_pos ?_]
    rw [show (X * 320 + Y * 64 + Z) / 64 = X * 5 + Y by omega, show (X * 320 + Y * 64 + Z) % 64 = Z by omega]
    omega
  · rw [if_neg e]
    have e2 : rhoT (j / 64) * 64 + j % 64 ≠ m := fun e3 => by
      have := rho_inj (j / 64) (by omega) (X * 5 + Y) (by omega) (by omega)
      omega
    by_cases h5 : rhoT (j / 64) * 64 + j % 64 < m
    · rw [if_pos h5, if_pos (by omega)]
    · rw [if_neg h5, if_neg (by omega)]
theorem RhRel.start (w : World) (c : Nat → Bool) :
    RhRel w c 0 ((((w.alloc (Obj.cells (bcells 1600 c) 122)).alloc (Obj.cells (bcells 1600 fun _ => false) 122)).alloc (Obj.cells (bcells 1600 fun _ => false) 122)).setRow (w.heap.size + 1 + 1) (bcells 1600 c)) := by
  obtain ⟨h1, h2, h3, h4⟩ := CuRel.start rhoC w c
  exact ⟨h1.other_row (by omega) _, h2.other_row (by omega) _, (h3.setRow c).congr (fun i _ => by rw [if_neg (by omega)]), h4.setRow _ _ (.inl (by omega))⟩
/-- x, y and t, and what holds there -/
def XyRel (w : World) (c : Nat → Bool) (x y t : Value) (wr : World) : Prop :=
  ∃ X Y T : Nat, x = .int .i64 X ∧ y = .int .i64 Y ∧ t = .int .i64 T ∧ X < 5 ∧ Y < 5 ∧ T ≤ 24 ∧ (T < 24 → rhoT (X * 5 + Y) = T) ∧ RhRel w c (T * 64) wr
theorem XyRel.mk {w : World} {c : Nat → Bool} {x y t : Value} {wr : World} (X Y T : Nat) (hx : x = .int .i64 X) (hy : y = .int .i64 Y) (ht : t = .int .i64 T) (h1 : X < 5) (h2 : Y < 5) (h3 : T ≤ 24) (h4 : T < 24 → rhoT (X * 5 + Y) = T) (h5 : RhRel w c (T * 64) wr) : XyRel w c x y t wr := ⟨X, Y, T, hx, hy, ht, h1, h2, h3, h4, h5⟩
attribute [local irreducible] wpStill
set_option maxRecDepth 100000 in
set_option maxHeartbeats 2000000 in
theorem rho_any (c : Nat → Bool) (w : World) : Calls Try.prog 110 #[aggB 1600 c] w fun e w' => e = .returned (aggB 1600 (rhoC c)) ∧ Fr [] w w' := by
  unfold aggB
  have H0 := Lib.hid (RhRel.start w c)
  have Hc := Lib.hid (CuRel.start rhoC w c)
  go_enter Try.func110, Try.ntmps110
  go_wp2_with (first | (with_reducible refine wpList_box_row rfl _ _ rfl _ rfl ?_) | (with_reducible refine wpList_alloc_row rfl _ rfl _ zero68 ?_) | (refine wpList_load_row rfl _ _ rfl w.heap.size rfl _ _ _ _ ((BoolsAt.new w 122 1600 c).alloc _) Try.underlying122 rfl (by rw [bcells_size]; exact size68) ?_; refine Hid.out ?_))
  show wpList _ _ _ _ _ _
  refine wpList_alloc_rowAt rfl _ rfl _ zero68 (w.heap.size + 1 + 1) (by simp) ?_
  refine wpList_store_bits rfl _ _ _ rfl (w.heap.size + 1 + 1) rfl 122 (bcells 1600 c) (bcells 1600 fun _ => false) rfl Hc.out.2.2.1 (by rw [bcells_size, bcells_size]) (bcells_one _ _) (by rw [bcells_size]; exact size68) ?_
  generalize World.setRow _ (w.heap.size + 1 + 1) (bcells 1600 c) = w1 at H0 ⊢
  go_wp2_with fail
  clear Hc
  go_loopw [4, 5, 6] (fun x y t wr => XyRel w c x y t wr) (fun _ _ t _ => 24 - (intOf t).toNat)
  case atStart => exact XyRel.mk 1 0 0 rfl rfl rfl (by omega) (by omega) (by omega) (fun _ => by decide) H0.out
  case round =>
    clear H0
    obtain ⟨X, Y, t, rfl, rfl, rfl, hX, hY, ht, hT, hR⟩ := hrel
    by_cases hlt : t < 24
    · replace hT := Lib.hid (hT hlt)
      have hd : decide ((t : Int) < 24) = true := by simp; omega
      go_wp2
      clear hd
      go_loopw [7] (fun z wr => InRel (RhRel w c) 64 (fun Z => t * 64 + Z) z wr) (fun z _ => 64 - (intOf z).toNat)
      case atStart => exact InRel.mk 0 (t * 64) (by omega) rfl (by omega) hR
      case round =>
        clear hR
        obtain ⟨Z, hZ, rfl, hR⟩ := hrel
        by_cases hlt3 : Z < 64
        · go_wp2
          refine wp_region_still_tail 21 (by kernel_rfl) (by kernel_rfl) ?_
          have R2 : RhRel w c (t * 64 + Z) wr.drew := hR.drew
          change wpStill Try.prog _ wr.drew (fun a' => wpList Try.prog _ _ _ a' wr.drew) _ _
          generalize wr.drew = w2 at R2 ⊢
          clear hR
          have b1 : (X : Int) < 5 := by omega
          have b2 : (Y : Int) < 5 := by omega
          have b3 : (Z : Int) < 64 := by omega
          obtain ⟨M, hM⟩ : ∃ M, M = (t + 1) * (t + 2) := ⟨_, rfl⟩
          have hM2 : M ≤ 25 * 26 := by rw [hM]; exact Nat.mul_le_mul (by omega) (by omega)
          obtain ⟨K, hK⟩ : ∃ K, K = (Z + 64 - M / 2 % 64) % 64 := ⟨_, rfl⟩
          have b4 : (K : Int) < 64 := by omega
          have hw1 : IntKind.i64.wrap ((t : Int) + 1) = (t : Int) + 1 := IntWalk.i64_in _ (by omega)
          have hw2 : IntKind.i64.wrap ((t : Int) + 2) = (t : Int) + 2 := IntWalk.i64_in _ (by omega)
          have hw3 : IntKind.i64.wrap (((t : Int) + 1) * ((t : Int) + 2)) = (M : Int) := by
            rw [hM, show ((t : Int) + 1) * ((t : Int) + 2) = (((t + 1) * (t + 2) : Nat) : Int) by push_cast; rfl]
            exact IntWalk.i64_in _ (by omega)
          have hq : Int.tdiv (M : Int) 2 = ((M / 2 : Nat) : Int) := by rw [Int.tdiv_eq_ediv_of_nonneg (by omega)]; omega
          have hw4 : IntKind.i64.wrap ((M / 2 : Nat) : Int) = ((M / 2 : Nat) : Int) := IntWalk.i64_in _ (by omega)
          have hw5 : IntKind.i64.wrap ((Z : Int) - ((M / 2 : Nat) : Int)) = (Z : Int) - ((M / 2 : Nat) : Int) := IntWalk.i64_in _ (by omega)
          have m1 : Hid (((Z : Int) - ((M / 2 : Nat) : Int)) % 64 = (K : Int)) := by show _ = _; omega
          have q0 := R2.1.cell (i := X * 320 + Y * 64 + K) (by omega)
          have q3 := R2.2.2.1.cell (i := X * 320 + Y * 64 + Z) (by omega)
          have q4 := R2.2.2.1.fz (X * 320 + Y * 64 + Z)
          have hv : Hid (rhoC c (X * 320 + Y * 64 + Z) = c (X * 320 + Y * 64 + K)) := by
            show _ = _
            rw [rhoC_at X Y Z t hlt (by omega) (by omega) (by omega) hT.out, ← hM, ← hK]
          clear hM hK hM2
          generalize c (X * 320 + Y * 64 + K) = v0 at q0 hv
          generalize (if rhoT ((X * 320 + Y * 64 + Z) / 64) * 64 + (X * 320 + Y * 64 + Z) % 64 < t * 64 + Z then rhoC c (X * 320 + Y * 64 + Z) else c (X * 320 + Y * 64 + Z)) = v3 at q3
          generalize M / 2 = Q at hq hw4 hw5 m1
          simp only [List.take_succ_cons, List.take_zero, List.drop_succ_cons, List.drop_zero]
          repeat still_step
          still_call (mod_nat ((Z : Int) - (Q : Int)) 64 K w2 (by decide) (by decide) m1.out)
          repeat still_step
          refine wpStill_nil ?_
          clear hw1 hw2 hw3 hw4 hw5 hq
          go_wp2_with fail
          have E := InRel.succ (R := RhRel w c) (f := fun Z => t * 64 + Z) hlt3 rfl (R2.step X Y Z t (by omega) (by omega) (by omega) hlt hT.out rfl _ hv.out.symm)
          exact E
        · go_wp2_with fail
          obtain ⟨K, hK⟩ : ∃ K, K = (2 * X + 3 * Y) % 5 := ⟨_, rfl⟩
          have m1 : (2 * (X : Int) + 3 * (Y : Int)) % 5 = (K : Int) := by omega
          refine (mod_nat _ 5 K wr (by decide) (by decide) m1).mono ?_
          rintro e w' ⟨rfl, rfl⟩
          clear m1
          replace hK := Lib.hid hK
          go_wp2_with fail
          replace hK := hK.out
          exact ⟨XyRel.mk Y K (t + 1) rfl rfl (by simp) hY (by omega) (by omega) (fun h => by rw [hK, rho_next X hX Y hY (by rw [hT.out]; omega), hT.out]) (by rw [show (t + 1) * 64 = t * 64 + Z by omega]; exact hR), by simp [intOf]; omega⟩
    · obtain rfl : t = 24 := by omega
      obtain ⟨h1, h2, h3, h4⟩ := hR
      have H3 : Hid (wr.heap[w.heap.size + 1 + 1]? = some (.cells (bcells 1600 (rhoC c)) 122 (0, 0))) := h3.congr (fun i hi => by
        by_cases h5 : rhoT (i / 64) < 24
        · rw [if_pos (by omega)]
        · rw [if_neg (by omega)]
          unfold rhoC
          rw [rho_zero (i / 64) (by omega) h5, show i / 64 * 64 + (i % 64 + 64 - 0) % 64 = i by omega])
      have H2 := Lib.hid h2
      clear h1 h2 h3
      go_wp2_with (refine wpList_load_row rfl _ _ rfl _ rfl _ _ _ _ H3.out Try.underlying122 rfl (by rw [bcells_size]; exact size68) ?_; refine Hid.out ?_)
      show wpList _ _ _ _ _ _
      refine wpList_store_bits rfl _ _ _ rfl (w.heap.size + 1) rfl 122 (bcells 1600 (rhoC c)) (bcells 1600 fun _ => false) rfl H2.out (by rw [bcells_size, bcells_size]) (bcells_one _ _) (by rw [bcells_size]; exact size68) ?_
      go_wp2_with fail
      have H4 : (wr.setRow (w.heap.size + 1) (bcells 1600 (rhoC c))).heap[w.heap.size + 1]? = some (.cells (bcells 1600 (rhoC c)) 122 (0, 0)) := setRow_heap _ _ _ _ _ _ H2.out
      refine bodyPost_ret (v := .agg (bcells 1600 (rhoC c))) ?_ ?_ ?_
      · exact results_cell_row rfl _ _ (w.heap.size + 1) _ _ _ _ rfl H4 Try.underlying122 rfl (by rw [bcells_size]; exact size68)
      · rfl
      exact ⟨rfl, h4.setRow _ _ (.inl (by omega))⟩
end Go.Proofs.Ytfgfhdkedmgfiaa
end

section
namespace Go.Sha
open Go.RowKit
/-- one step of the register -/
def rcSet (r : Bits) (k : Nat) : Bits := r.set k (r.getD k false != r.getD 8 false)
def rcStep (r : Bits) : Bits := (rcSet (rcSet (rcSet (rcSet (false :: r) 0) 4) 5) 6).take 8
def rcR : Nat → Bits
  | 0 => [true, false, false, false, false, false, false, false]
  | k + 1 => rcStep (rcR k)
theorem rcSet_length (r : Bits) (k : Nat) : (rcSet r k).length = r.length := by simp [rcSet]
theorem rcR_length : ∀ k, (rcR k).length = 8
  | 0 => rfl
  | k + 1 => by simp [rcR, rcStep, rcSet_length, rcR_length k]
/-- the bit with a number -/
def rcB (t : Nat) : Bool := (rcR (t % 255)).getD 0 false
/-- a new block of one bool, as a slice of one's own -/
theorem OwB.one (w : World) (u : Bool) (e base : Nat) (hb : base ≤ w.heap.size) : OwB (w.alloc (.cells #[.bool u] e)) base e (some ⟨w.heap.size, 0, none⟩) 1 [u] :=
  ⟨rfl, .inr ⟨w.heap.size, 1, #[.bool u], rfl, hb, Go.heap_alloc_new w _, by simp, by simp [maxLen], by simp, by simp⟩⟩
theorem OwB.at0 {w : World} {base e c : Nat} {a : Option Addr} {l : Bits} (h : OwB w base e a c l) (hl : 0 < l.length) : ∃ g, a = Option.some ⟨g, 0, none⟩ ∧ base ≤ g ∧ l.length ≤ c ∧ c ≤ maxLen := by
  obtain ⟨g, cur, h1, h2, _, h3, h4, _⟩ := h.open hl
  exact ⟨g, h1, h2, h3, h4⟩
theorem OwB.drew {w : World} {base e c : Nat} {a : Option Addr} {l : Bits} (h : OwB w base e a c l) : OwB w.drew base e a c l := h
theorem SlB.of_cells {w : World} {g e : Nat} {l : Bits} (h : w.heap[g]? = some (.cells (l.map Value.bool).toArray e (0, 0))) (hm : l.length ≤ maxLen) : SlB w (some ⟨g, 0, none⟩) l.length l.length l := by
  refine ⟨rfl, Nat.le_refl _, hm, .inr ⟨g, 0, rfl, fun i hi => ?_⟩⟩
  simp [World.cell?, h, hi]
end Go.Sha
namespace Go.Proofs.Ytfgfhdkedmgfiaa
open Go.ChangeShapes Go.WideShapes Go.ChangeAt Go.RowKit Go.Sha
theorem info4 : (Try.prog.info? 4).map (fun i => (i.zero, i.size, i.bytes)) = some (some (.bool false), 1, 1) := by kernel_rfl

/-- k steps done -/
def RcRel (w : World) (M : Nat) (r i : Value) (wr : World) : Prop := ∃ k a c : Nat, k ≤ M ∧ i = .int .i64 k ∧ r = .slice (some ⟨a, 0, none⟩) 8 c ∧ SlB wr (some ⟨a, 0, none⟩) 8 c (rcR k) ∧ Fr [] w wr
theorem RcRel.mk {w : World} {M : Nat} {r i : Value} {wr : World} (k a c : Nat) (hk : k ≤ M) (hi : i = .int .i64 k) (hr : r = .slice (some ⟨a, 0, none⟩) 8 c) (hs : SlB wr (some ⟨a, 0, none⟩) 8 c (rcR k)) (hf : Fr [] w wr) : RcRel w M r i wr := ⟨k, a, c, hk, hi, hr, hs, hf⟩

attribute [local irreducible] wpStill
set_option maxRecDepth 100000 in
set_option maxHeartbeats 1000000 in
theorem rc_any (t : Nat) (w : World) (_ht : t ≤ 1000000) : Calls Try.prog 117 #[.int .i64 (t : Int)] w (RetB (rcB t) w) := by
  obtain ⟨i0, hi, hz0, hz1, hz2⟩ := info_parts info4
  obtain ⟨M, hM⟩ : ∃ M : Nat, M = t % 255 := ⟨_, rfl⟩
  have m1 : Hid ((t : Int) % 255 = (M : Int)) := by show _ = _; omega
  have hMl : M < 255 := by omega
  have HM := Lib.hid hM
  clear hM
  go_enter Try.func117, Try.ntmps117
  go_wp2_with fail
  have h0 : SlB (w.alloc (.cells #[.bool true, .bool false, .bool false, .bool false, .bool false, .bool false, .bool false, .bool false] 4)) (some ⟨w.heap.size, 0, none⟩) 8 8 (rcR 0) :=
    SlB.of_cells (l := rcR 0) (Go.heap_alloc_new w _) (by decide)
  have f0 : Fr [] w (w.alloc (.cells #[.bool true, .bool false, .bool false, .bool false, .bool false, .bool false, .bool false, .bool false] 4)) := (Fr.refl _ _).alloc _
  have H0 := Lib.hid h0
  clear h0
  generalize w.alloc (.cells #[.bool true, .bool false, .bool false, .bool false, .bool false, .bool false, .bool false, .bool false] 4) = w0 at H0 f0 ⊢
  go_loopw [3, 4] (fun r i wr => RcRel w M r i wr) (fun _ i _ => M - (intOf i).toNat)
  case atStart => exact RcRel.mk 0 _ _ (by omega) rfl rfl H0.out f0
  case round =>
    clear H0 f0 w0
    obtain ⟨k, ga, ca, hk, rfl, rfl, hS, hf⟩ := hrel
    have HS := Lib.hid hS
    have hlen := hS.cap
    have hmax := hS.max
    unfold maxLen at hmax
    clear hS
    go_wp2_with fail
    refine (mod_nat _ 255 M wr (by decide) (by decide) m1.out).mono ?_
    rintro e w' ⟨rfl, rfl⟩
    by_cases hlt : k < M
    · have f1 : Fr [] w' (w'.alloc (.cells #[.bool false] 4)) := (Fr.refl _ _).alloc _
      have S1 := Lib.hid (HS.out.keep0 f1)
      have F1 := hf.trans f1
      have O1 := Lib.hid (OwB.one w' false 4 w.heap.size hf.size)
      have hsz : w.heap.size ≤ (w'.alloc (.cells #[.bool false] 4)).heap.size := by simp; have := hf.size; omega
      have hsz2 := hf.size
      have hrl := Lib.hid (rcR_length k)
      go_wp2_with (at_builtin; refine wpList_append_src _ rfl _ _ 99 99 rfl w.heap.size 4 i0 (.bool false) 1 1 Try.underlying99 hi hz0 hz1 hz2 rfl (some ⟨w'.heap.size, 0, none⟩) 1 1 [.bool false] rfl O1.out _ 8 ((rcR k).map Value.bool) rfl (S1.out.src Try.underlying99) ?c1 ?c2 ?c3 ?_)
      case c1 => unfold maxLen; omega
      case c2 => omega
      case c3 => exact hsz
      intro a2 c2 w2 ho hg
      have F2 : Fr [] w w2 := F1.grown hg (by intro q hq; simp [Value.ownBlock] at hq; omega)
      have O2 : OwB w2 w.heap.size 4 a2 c2 (false :: rcR k) := OwB.of ho (by simp [hrl.out]) (by simp)
      clear ho hg O1 S1 f1 F1 hf HS hsz
      obtain ⟨g, rfl, hgb, hgc, hgm⟩ := O2.at0 (by simp)
      have hc9 : 9 ≤ c2 := by simp [hrl.out] at hgc; omega
      unfold maxLen at hgm
      clear hgc
      obtain ⟨R0, hR0⟩ : ∃ R0 : Bits, R0 = false :: rcR k := ⟨_, rfl⟩
      have hL0 : R0.length = 9 := by rw [hR0]; simp [hrl.out]
      rw [← hR0] at O2
      have HR0 := Lib.hid hR0
      clear hR0
      have HL0 := Lib.hid hL0
      have G2 := Lib.hid O2
      clear O2 hL0
      go_wp2_with fail
      refine wp_region_still_tail 9 (by kernel_rfl) (by kernel_rfl) ?_
      change wpStill Try.prog _ w2.drew (fun a' => wpList Try.prog _ _ _ a' w2.drew) _ _
      have F3 := F2.drew
      have G3 : Hid (OwB w2.drew w.heap.size 4 (some ⟨g, 0, none⟩) c2 R0) := G2.out.drew
      clear F2 G2
      generalize w2.drew = w3 at F3 G3 ⊢
      have q0 := (G3.out.cell (k := 0) (by rw [HL0.out]; decide)).1
      have q1 := (G3.out.cell (k := 8) (by rw [HL0.out]; decide)).1
      have q2 := (G3.out.cell (k := 0) (by rw [HL0.out]; decide)).2
      obtain ⟨v0, hv0⟩ : ∃ v0, v0 = R0.getD 0 false := ⟨_, rfl⟩
      obtain ⟨v1, hv1⟩ : ∃ v1, v1 = R0.getD 8 false := ⟨_, rfl⟩
      rw [← hv0] at q0
      rw [← hv1] at q1
      have HV := Lib.hid (And.intro hv0 hv1)
      clear hv0 hv1
      simp only [List.take_succ_cons, List.take_zero, List.drop_succ_cons, List.drop_zero]
      repeat still_step
      refine wpStill_nil ?_
      go_wp2_with fail
      have F4 : Fr [] w (w3.setCell ⟨g, 0, none⟩ (.bool (!(v0 == v1)))) := F3.setCell _ _ (.inl hgb)
      obtain ⟨R1, hR1⟩ : ∃ R1 : Bits, R1 = rcSet R0 0 := ⟨_, rfl⟩
      have G4 : Hid (OwB (w3.setCell ⟨g, 0, none⟩ (.bool (!(v0 == v1)))) w.heap.size 4 (some ⟨g, 0, none⟩) c2 R1) := by
        rw [hR1]
        unfold rcSet
        rw [← HV.out.1, ← HV.out.2]
        exact G3.out.set (by rw [HL0.out]; decide) _
      have HL1 : Hid (R1.length = 9) := by rw [hR1]; exact (rcSet_length _ _).trans HL0.out
      have HR1 := Lib.hid hR1
      clear hR1 q0 q1 q2 HV F3 G3
      generalize w3.setCell ⟨g, 0, none⟩ (.bool (!(v0 == v1))) = w4 at F4 G4 ⊢
      go_wp2_with fail
      refine wp_region_still_tail 9 (by kernel_rfl) (by kernel_rfl) ?_
      change wpStill Try.prog _ w4.drew (fun a' => wpList Try.prog _ _ _ a' w4.drew) _ _
      have F5 := F4.drew
      have G5 : Hid (OwB w4.drew w.heap.size 4 (some ⟨g, 0, none⟩) c2 R1) := G4.out.drew
      clear F4 G4
      generalize w4.drew = w5 at F5 G5 ⊢
      have q0 := (G5.out.cell (k := 4) (by rw [HL1.out]; decide)).1
      have q1 := (G5.out.cell (k := 8) (by rw [HL1.out]; decide)).1
      have q2 := (G5.out.cell (k := 4) (by rw [HL1.out]; decide)).2
      obtain ⟨v0, hv0⟩ : ∃ v0, v0 = R1.getD 4 false := ⟨_, rfl⟩
      obtain ⟨v1, hv1⟩ : ∃ v1, v1 = R1.getD 8 false := ⟨_, rfl⟩
      rw [← hv0] at q0
      rw [← hv1] at q1
      have HV := Lib.hid (And.intro hv0 hv1)
      clear hv0 hv1
      simp only [List.take_succ_cons, List.take_zero, List.drop_succ_cons, List.drop_zero]
      repeat still_step
      refine wpStill_nil ?_
      go_wp2_with fail
      have F6 : Fr [] w (w5.setCell ⟨g, 4, none⟩ (.bool (!(v0 == v1)))) := F5.setCell _ _ (.inl hgb)
      obtain ⟨R2, hR2⟩ : ∃ R2 : Bits, R2 = rcSet R1 4 := ⟨_, rfl⟩
      have G6 : Hid (OwB (w5.setCell ⟨g, 4, none⟩ (.bool (!(v0 == v1)))) w.heap.size 4 (some ⟨g, 0, none⟩) c2 R2) := by
        rw [hR2]
        unfold rcSet
        rw [← HV.out.1, ← HV.out.2]
        exact G5.out.set (by rw [HL1.out]; decide) _
      have HL2 : Hid (R2.length = 9) := by rw [hR2]; exact (rcSet_length _ _).trans HL1.out
      have HR2 := Lib.hid hR2
      clear hR2 q0 q1 q2 HV F5 G5
      generalize w5.setCell ⟨g, 4, none⟩ (.bool (!(v0 == v1))) = w6 at F6 G6 ⊢
      go_wp2_with fail
      refine wp_region_still_tail 9 (by kernel_rfl) (by kernel_rfl) ?_
      change wpStill Try.prog _ w6.drew (fun a' => wpList Try.prog _ _ _ a' w6.drew) _ _
      have F7 := F6.drew
      have G7 : Hid (OwB w6.drew w.heap.size 4 (some ⟨g, 0, none⟩) c2 R2) := G6.out.drew
      clear F6 G6
      generalize w6.drew = w7 at F7 G7 ⊢
      have q0 := (G7.out.cell (k := 5) (by rw [HL2.out]; decide)).1
      have q1 := (G7.out.cell (k := 8) (by rw [HL2.out]; decide)).1
      have q2 := (G7.out.cell (k := 5) (by rw [HL2.out]; decide)).2
      obtain ⟨v0, hv0⟩ : ∃ v0, v0 = R2.getD 5 false := ⟨_, rfl⟩
      obtain ⟨v1, hv1⟩ : ∃ v1, v1 = R2.getD 8 false := ⟨_, rfl⟩
      rw [← hv0] at q0
      rw [← hv1] at q1
      have HV := Lib.hid (And.intro hv0 hv1)
      clear hv0 hv1
      simp only [List.take_succ_cons, List.take_zero, List.drop_succ_cons, List.drop_zero]
      repeat still_step
      refine wpStill_nil ?_
      go_wp2_with fail
      have F8 : Fr [] w (w7.setCell ⟨g, 5, none⟩ (.bool (!(v0 == v1)))) := F7.setCell _ _ (.inl hgb)
      obtain ⟨R3, hR3⟩ : ∃ R3 : Bits, R3 = rcSet R2 5 := ⟨_, rfl⟩
      have G8 : Hid (OwB (w7.setCell ⟨g, 5, none⟩ (.bool (!(v0 == v1)))) w.heap.size 4 (some ⟨g, 0, none⟩) c2 R3) := by
        rw [hR3]
        unfold rcSet
        rw [← HV.out.1, ← HV.out.2]
        exact G7.out.set (by rw [HL2.out]; decide) _
      have HL3 : Hid (R3.length = 9) := by rw [hR3]; exact (rcSet_length _ _).trans HL2.out
      have HR3 := Lib.hid hR3
      clear hR3 q0 q1 q2 HV F7 G7
      generalize w7.setCell ⟨g, 5, none⟩ (.bool (!(v0 == v1))) = w8 at F8 G8 ⊢
      go_wp2_with fail
      refine wp_region_still_tail 9 (by kernel_rfl) (by kernel_rfl) ?_
      change wpStill Try.prog _ w8.drew (fun a' => wpList Try.prog _ _ _ a' w8.drew) _ _
      have F9 := F8.drew
      have G9 : Hid (OwB w8.drew w.heap.size 4 (some ⟨g, 0, none⟩) c2 R3) := G8.out.drew
      clear F8 G8
      generalize w8.drew = w9 at F9 G9 ⊢
      have q0 := (G9.out.cell (k := 6) (by rw [HL3.out]; decide)).1
      have q1 := (G9.out.cell (k := 8) (by rw [HL3.out]; decide)).1
      have q2 := (G9.out.cell (k := 6) (by rw [HL3.out]; decide)).2
      obtain ⟨v0, hv0⟩ : ∃ v0, v0 = R3.getD 6 false := ⟨_, rfl⟩
      obtain ⟨v1, hv1⟩ : ∃ v1, v1 = R3.getD 8 false := ⟨_, rfl⟩
      rw [← hv0] at q0
      rw [← hv1] at q1
      have HV := Lib.hid (And.intro hv0 hv1)
      clear hv0 hv1
      simp only [List.take_succ_cons, List.take_zero, List.drop_succ_cons, List.drop_zero]
      repeat still_step
      refine wpStill_nil ?_
      go_wp2_with fail
      have F10 : Fr [] w (w9.setCell ⟨g, 6, none⟩ (.bool (!(v0 == v1)))) := F9.setCell _ _ (.inl hgb)
      obtain ⟨R4, hR4⟩ : ∃ R4 : Bits, R4 = rcSet R3 6 := ⟨_, rfl⟩
      have G10 : Hid (OwB (w9.setCell ⟨g, 6, none⟩ (.bool (!(v0 == v1)))) w.heap.size 4 (some ⟨g, 0, none⟩) c2 R4) := by
        rw [hR4]
        unfold rcSet
        rw [← HV.out.1, ← HV.out.2]
        exact G9.out.set (by rw [HL3.out]; decide) _
      have HL4 : Hid (R4.length = 9) := by rw [hR4]; exact (rcSet_length _ _).trans HL3.out
      have HR4 := Lib.hid hR4
      clear hR4 q0 q1 q2 HV F9 G9
      generalize w9.setCell ⟨g, 6, none⟩ (.bool (!(v0 == v1))) = w10 at F10 G10 ⊢
      go_wp2_with fail
      refine ⟨RcRel.mk (k + 1) g c2 (by omega) (by simp) rfl ?_ F10, by simp [intOf]; omega⟩
      have e : rcR (k + 1) = R4.take 8 := by rw [HR4.out, HR3.out, HR2.out, HR1.out, HR0.out]; rfl
      rw [e]
      exact (G10.out.sl_at HL4.out).take 8 (by omega)
    · have q0 : w'.cell? ⟨ga, 0, none⟩ = some (.bool ((rcR k).getD 0 false)) := by
        rcases HS.out.cel with h | ⟨b, o, hb, hc⟩
        · omega
        · simp only [Option.some.injEq, Addr.mk.injEq] at hb
          obtain ⟨rfl, rfl, _⟩ := hb
          exact hc 0 (by omega)
      obtain rfl : k = M := by omega
      have HF := Lib.hid hf
      clear hf
      generalize hv : (rcR k).getD 0 false = v at q0
      have HV := Lib.hid hv
      clear hv
      go_wp2_with fail
      go_ret
      refine ⟨?_, HF.out⟩
      unfold rcB
      rw [← HM.out, HV.out]
      rfl
end Go.Proofs.Ytfgfhdkedmgfiaa
end

section
namespace Go.Sha
/-- j steps of iota in a round -/
def iotaN (r : Nat) (c : Nat → Bool) : Nat → Nat → Bool
  | 0 => c
  | j + 1 => upd (iotaN r c j) (2 ^ j - 1) (iotaN r c j (2 ^ j - 1) != rcB (j + 7 * r))
def iotaC (r : Nat) (c : Nat → Bool) : Nat → Bool := iotaN r c 7
theorem shl_facts : ∀ j, j < 7 → Go.RowKit.wrap64 (Go.RowKit.wrap64 (2 ^ j) - 1) = ((2 ^ j - 1 : Nat) : Int) := by decide +kernel
theorem shl_lt : ∀ j, j < 7 → 2 ^ j - 1 < 64 := by decide
end Go.Sha
namespace Go.Proofs.Ytfgfhdkedmgfiaa
open Go.ChangeShapes Go.WideShapes Go.ChangeAt Go.RowKit Go.Sha
structure IoRel (w : World) (r : Nat) (c : Nat → Bool) (j : Nat) (wr : World) : Prop where
  cube : BoolsAt wr w.heap.size 122 1600 (iotaN r c j)
  zero : BoolsAt wr (w.heap.size + 1) 122 1600 (fun _ => false)
  fr : Fr [] w wr
theorem IoRel.start (w : World) (r : Nat) (c : Nat → Bool) : IoRel w r c 0 ((w.alloc (Obj.cells (bcells 1600 c) 122)).alloc (Obj.cells (bcells 1600 fun _ => false) 122)) := by
  refine ⟨(BoolsAt.new w _ _ c).alloc _, ?_, ((Fr.refl _ _).alloc _).alloc _⟩
  have := BoolsAt.new (w.alloc (Obj.cells (bcells 1600 c) 122)) 122 1600 fun _ => false
  simpa using this
theorem IoRel.keep {w : World} {r j : Nat} {c : Nat → Bool} {wr w' : World} (h : IoRel w r c j wr) (hf : Fr [] wr w') : IoRel w r c j w' := ⟨h.cube.keep hf (by simp), h.zero.keep hf (by simp), h.fr.trans hf⟩
theorem IoRel.step {w : World} {r j : Nat} {c : Nat → Bool} {wr : World} (h : IoRel w r c j wr) (v : Bool) (hv : v = (iotaN r c j (2 ^ j - 1) != rcB (j + 7 * r))) : IoRel w r c (j + 1) (wr.setCell ⟨w.heap.size, 2 ^ j - 1, none⟩ (.bool v)) := by
  subst hv
  exact ⟨h.cube.set _, h.zero.other (by omega) _, h.fr.setCell _ _ (.inl (by simp))⟩
theorem IoRel.drew {w : World} {r j : Nat} {c : Nat → Bool} {wr : World} (h : IoRel w r c j wr) : IoRel w r c j wr.drew := ⟨h.cube, h.zero, h.fr.drew⟩
theorem IoRel.held {w : World} {r j Z : Nat} {c : Nat → Bool} {v : Bool} {wr : World} (h : IoRel w r c j wr) (hZ : Z < 1600) (hv : iotaN r c j Z = v) : wr.cell? ⟨w.heap.size, Z, none⟩ = some (.bool v) ∧ wr.frozen? ⟨w.heap.size, Z, none⟩ = false ∧ IoRel w r c j wr :=
  ⟨by rw [h.cube.cell (i := Z) hZ, hv], h.cube.fz Z, h⟩
theorem IoRel.step' {w : World} {r j Z : Nat} {c : Nat → Bool} {v0 v1 : Bool} {wr : World} (h : IoRel w r c j wr) (hZ : Z = 2 ^ j - 1) (hv : iotaN r c j Z = v0) (hx : v1 = rcB (j + 7 * r)) : IoRel w r c (j + 1) (wr.setCell ⟨w.heap.size, Z, none⟩ (.bool (!(v0 == v1)))) := by
  subst hZ hv hx
  exact h.step _ rfl
attribute [local irreducible] wpStill
set_option maxRecDepth 100000 in
set_option maxHeartbeats 2000000 in
theorem iota_any (c : Nat → Bool) (r : Nat) (hr : r < 24) (w : World) : Calls Try.prog 107 #[aggB 1600 c, .int .i64 (r : Int)] w fun e w' => e = .returned (aggB 1600 (iotaC r c)) ∧ Fr [] w w' := by
  unfold aggB
  have H0 := Lib.hid (IoRel.start w r c)
  go_enter Try.func107, Try.ntmps107
  go_wp2_with (first | (with_reducible refine wpList_box_row rfl _ _ rfl _ rfl ?_) | (with_reducible refine wpList_alloc_row rfl _ rfl _ zero68 ?_))
  go_loopw [5] (fun x wr => InRel (IoRel w r c) 7 (fun X => X) x wr) (fun x _ => 7 - (intOf x).toNat)
  case atStart => exact InRel.mk 0 0 (by omega) rfl rfl H0.out
  case round =>
    clear H0
    obtain ⟨j, hj, rfl, hR⟩ := hrel
    by_cases hlt : j < 7
    · have hd : decide ((j : Int) ≤ 6) = true := by simp; omega
      go_wp2_with fail
      clear hd
      obtain ⟨Z, hZ⟩ : ∃ Z : Nat, Z = 2 ^ j - 1 := ⟨_, rfl⟩
      have hz : wrap64 (wrap64 (2 ^ j) - 1) = (Z : Int) := by rw [hZ]; exact shl_facts j hlt
      have hZ64 : Z < 64 := by rw [hZ]; exact (shl_lt j hlt)
      rw [hz]
      clear hz
      have b1 : (Z : Int) < 64 := by omega
      have q0 := hR.cube.cell (i := Z) (by omega)
      have q4 := hR.cube.fz Z
      generalize hv : iotaN r c j Z = v0 at q0
      have HV := Lib.hid hv
      have HZ := Lib.hid hZ
      clear hv hZ
      have hw1 : IntKind.i64.wrap (7 * (r : Int)) = 7 * (r : Int) := IntWalk.i64_in _ (by omega)
      have hw2 : IntKind.i64.wrap ((j : Int) + 7 * (r : Int)) = (j : Int) + 7 * (r : Int) := IntWalk.i64_in _ (by omega)
      have hw3 : ((j : Int) + 7 * (r : Int)) = ((j + 7 * r : Nat) : Int) := by omega
      have RC : ∀ u, Calls Try.prog 117 #[.int .i64 ((j : Int) + 7 * (r : Int))] u (RetB (rcB (j + 7 * r)) u) := fun u => by rw [hw3]; exact rc_any _ u (by omega)
      have HRC := Lib.hid RC
      clear RC hw3
      obtain ⟨v1, hv1⟩ : ∃ v1, v1 = rcB (j + 7 * r) := ⟨_, rfl⟩
      rw [← hv1] at HRC
      have HX := Lib.hid hv1
      clear hv1
      have R0 := hR.drew
      go_region_law ((go_simp; go_at_call 117; refine (HRC.out _).mono ?_; rintro e w3 ⟨rfl, f3⟩; have R3 := R0.keep f3; have q5 := (R3.held (by omega) HV.out).1; have q6 := (R3.held (by omega) HV.out).2.1))
      all_goals
        clear hw1 hw2
        go_wp2_with fail
        exact InRel.succ hlt rfl (R3.step' HZ.out HV.out HX.out)
    · obtain rfl : j = 7 := by omega
      obtain ⟨h1, h2, h4⟩ := hR
      have H3 : Hid (wr.heap[w.heap.size]? = some (.cells (bcells 1600 (iotaC r c)) 122 (0, 0))) := h1
      have H2 := Lib.hid h2
      clear h1 h2
      go_wp2_with (refine wpList_load_row rfl _ _ rfl _ rfl _ _ _ _ H3.out Try.underlying122 rfl (by rw [bcells_size]; exact size68) ?_; refine Hid.out ?_)
      show wpList _ _ _ _ _ _
      refine wpList_store_bits rfl _ _ _ rfl (w.heap.size + 1) rfl 122 (bcells 1600 (iotaC r c)) (bcells 1600 fun _ => false) rfl H2.out (by rw [bcells_size, bcells_size]) (bcells_one _ _) (by rw [bcells_size]; exact size68) ?_
      go_wp2_with fail
      have H4 : (wr.setRow (w.heap.size + 1) (bcells 1600 (iotaC r c))).heap[w.heap.size + 1]? = some (.cells (bcells 1600 (iotaC r c)) 122 (0, 0)) := setRow_heap _ _ _ _ _ _ H2.out
      refine bodyPost_ret (v := .agg (bcells 1600 (iotaC r c))) ?_ ?_ ?_
      · exact results_cell_row rfl _ _ (w.heap.size + 1) _ _ _ _ rfl H4 Try.underlying122 rfl (by rw [bcells_size]; exact size68)
      · rfl
      exact ⟨rfl, h4.setRow _ _ (.inl (by omega))⟩
end Go.Proofs.Ytfgfhdkedmgfiaa
end

section
namespace Go.Sha
open Go.RowKit
def byteBits (b : UInt8) : Bits := (List.range 8).map fun k => b.toNat.testBit k
def bitsB (l : Bs) : Bits := l.flatMap byteBits
theorem byteBits_length (b : UInt8) : (byteBits b).length = 8 := by simp [byteBits]
theorem bitsB_length (l : Bs) : (bitsB l).length = 8 * l.length := by
  induction l with
  | nil => rfl
  | cons x l ih =>
    have e : bitsB (x :: l) = byteBits x ++ bitsB l := rfl
    rw [e, List.length_append, ih, byteBits_length, List.length_cons]
    omega
theorem bitsB_snoc (l : Bs) (x : UInt8) : bitsB (l ++ [x]) = bitsB l ++ byteBits x := by simp [bitsB]
theorem byteBits_take_succ (b : UInt8) (k : Nat) (h : k < 8) : (byteBits b).take (k + 1) = (byteBits b).take k ++ [b.toNat.testBit k] := by
  rw [List.take_succ_eq_append_getElem (by rw [byteBits_length]; exact h)]
  simp [byteBits]
theorem take_snoc (l : Bs) (k : Nat) (h : k < l.length) : l.take (k + 1) = l.take k ++ [l.getD k 0] := by
  rw [List.take_succ_eq_append_getElem h, getD_at l k h]
/-- a slice of bools of its own is handed back that reads as l -/
def RetOB (t : Nat) (l : Bits) (w : World) (e : Ending) (w' : World) : Prop := ∃ a c, e = .returned (.slice a l.length c) ∧ OwB w' w.heap.size t a c l ∧ Fr [] w w'
end Go.Sha
namespace Go.Proofs.Ytfgfhdkedmgfiaa
open Go.ChangeShapes Go.WideShapes Go.ChangeAt Go.RowKit Go.Sha
/-- the bits done so far -/
def BiRel (w : World) (L : Bits) (v : Value) (wr : World) : Prop := ∃ a n c, v = .slice a n c ∧ L.length = n ∧ OwB wr w.heap.size 4 a c L ∧ Fr [] w wr
def BoRel (w : World) (l : Bs) (v i : Value) (wr : World) : Prop := ∃ k : Nat, k ≤ l.length ∧ i = .int .i64 k ∧ BiRel w (bitsB (l.take k)) v wr
def BkRel (w : World) (L : Bits) (x : UInt8) (v j : Value) (wr : World) : Prop := ∃ k : Nat, k ≤ 8 ∧ j = .int .i64 k ∧ BiRel w (L ++ (byteBits x).take k) v wr
/-- one bit appended to a row of one's own -/
theorem OwB.row {w : World} {base e n c : Nat} {a : Option Addr} {l : Bits} (h : OwB w base e a c l) (hn : l.length = n) : w.ownsRow base e 1 (.slice a n c) n (l.map Value.bool) := by subst hn; exact h
theorem BiRel.grown {w wr w1 : World} {L : Bits} {v : Bool} {a a' : Option Addr} {n c c' : Nat} (hL : L.length = n) {xs : List Value} (hxs : xs = L.map Value.bool) (hf : Fr [] w wr) (ho : w1.ownsRow w.heap.size 4 1 (.slice a' (n + 1) c') (n + 1) (xs ++ [.bool v])) (hO : OwB wr w.heap.size 4 a c L) (hg : (wr.alloc (.cells #[.bool v] 4)).grownBy w1 (Value.slice a n c).ownBlock) :
    BiRel w (L ++ [v]) (.slice a' (n + 1) c') w1 := by
  subst hxs
  refine ⟨a', n + 1, c', rfl, by simp [hL], OwB.of ho (by simp [hL]) (by simp), ?_⟩
  refine (hf.alloc _).grown hg (fun q hq => .inl ?_)
  cases a with
  | none => simp [Value.ownBlock] at hq
  | some ad =>
    have := hO.block
    simp [Value.ownBlock] at hq
    omega
theorem shr_bit (x : UInt8) (j : Nat) : (bits BinOp.and IntKind.u8 ((x.toNat : Int) / 2 ^ j) 1 == 1) = x.toNat.testBit j := by
  have h1 : ((x.toNat : Int) / 2 ^ j) = ((x.toNat / 2 ^ j : Nat) : Int) := by simp
  have h2 : x.toNat / 2 ^ j < 256 := Nat.lt_of_le_of_lt (Nat.div_le_self _ _) x.toNat_lt
  rw [h1, Nat.testBit_eq_decide_div_mod_eq]
  generalize x.toNat / 2 ^ j = m at h2
  have h3 : ∀ m, m < 256 → (bits BinOp.and IntKind.u8 ((m : Nat) : Int) 1 == 1) = decide (m % 2 = 1) := by decide +kernel
  exact h3 m h2

set_option maxRecDepth 100000 in
set_option maxHeartbeats 1000000 in
theorem bitsOf_any (a0 : Option Addr) (n c : Nat) (l : Bs) (w : World) (h : Sl w a0 n c l) (hn : 8 * n ≤ 140737488355328) :
    Calls Try.prog 94 #[.slice a0 n c] w (RetOB 4 (bitsB l) w) := by
  obtain ⟨i0, hi, hz0, hz1, hz2⟩ := info_parts info4
  have hlen := Lib.hid h.len
  have hc := h.cap
  have hm := h.max
  unfold maxLen at hm
  have HS := Lib.hid h
  clear h
  go_enter Try.func94, Try.ntmps94
  go_wp2_with fail
  go_loopw [3, 9] (fun v i wr => BoRel w l v i wr) (fun _ i _ => n - (intOf i).toNat)
  case atStart => exact ⟨0, by omega, rfl, none, 0, 0, rfl, rfl, OwB.nil _ _ _, Fr.refl _ _⟩
  case round =>
    obtain ⟨k, hk, rfl, a1, n1, c1, rfl, hn1, hO, hf⟩ := hrel
    rw [hlen.out] at hk
    have HN1 := Lib.hid hn1
    clear hn1
    by_cases hlt : k < n
    · have S1 := HS.out.keep0 hf
      obtain ⟨b, o, rfl, hcel⟩ : ∃ b o, a0 = some ⟨b, o, none⟩ ∧ ∀ i, i < n → wr.cell? ⟨b, o + i, none⟩ = some (.int .u8 (l.getD i 0).toNat) := by
        rcases S1.cel with h0 | h0
        · omega
        · exact h0
      have q0 := hcel k hlt
      clear hcel S1
      obtain ⟨x, hx⟩ : ∃ x, x = l.getD k 0 := ⟨_, rfl⟩
      rw [← hx] at q0
      have HX := Lib.hid hx
      clear hx
      obtain ⟨L, hL⟩ : ∃ L, L = bitsB (l.take k) := ⟨_, rfl⟩
      rw [← hL] at hO HN1
      have hLl : L.length = 8 * k := by rw [hL, bitsB_length, List.length_take, hlen.out]; omega
      have HL := Lib.hid hL
      have HLl := Lib.hid hLl
      have HO := Lib.hid hO
      clear hL hO hLl
      go_wp2_with fail
      go_loopw [3, 6] (fun v j wr => BkRel w L x v j wr) (fun _ j _ => 8 - (intOf j).toNat)
      case atStart => exact ⟨0, by omega, rfl, a1, n1, c1, rfl, by simpa using HN1.out, by simpa using HO.out, hf⟩
      case round =>
        clear HO hf q0
        obtain ⟨j, hj, rfl, a2, n2, c2, rfl, hn2, hO, hf⟩ := hrel
        have hd : n2 = 8 * k + j := by rw [← hn2, List.length_append, List.length_take, byteBits_length, HLl.out]; omega
        have HN2 := Lib.hid hn2
        have HO := Lib.hid hO
        clear hO hn2
        by_cases hlt2 : j < 8
        · have hn2b : n2 + 1 ≤ 140737488355328 := by omega
          clear hd
          obtain ⟨v, hv⟩ : ∃ v, v = x.toNat.testBit j := ⟨_, rfl⟩
          have hb : (bits BinOp.and IntKind.u8 ((x.toNat : Int) / 2 ^ j) 1 == 1) = v := by rw [hv]; exact shr_bit x j
          have hd : decide ((j : Int) < 8) = true := by simp; omega
          have HV := Lib.hid hv
          clear hv
          have f1 : Fr [] wr (wr.alloc (.cells #[.bool v] 4)) := (Fr.refl _ _).alloc _
          obtain ⟨xs, hxs⟩ : ∃ xs, xs = (L ++ (byteBits x).take j).map Value.bool := ⟨_, rfl⟩
          have O1 : Hid ((wr.alloc (.cells #[.bool v] 4)).ownsRow w.heap.size 4 1 (.slice a2 n2 c2) n2 xs) := by rw [hxs]; exact OwB.row (HO.out.keep0 f1) HN2.out
          have HXS := Lib.hid hxs
          clear hxs
          have S1 := Lib.hid (SlB.one wr v 4)
          have hsz : w.heap.size ≤ (wr.alloc (.cells #[.bool v] 4)).heap.size := by simp; have := hf.size; omega
          clear f1
          go_wp2_with (at_builtin; refine wpList_append_src _ rfl _ _ 99 99 rfl w.heap.size 4 i0 (.bool false) 1 1 Try.underlying99 hi hz0 hz1 hz2 rfl a2 n2 c2 xs rfl O1.out _ 1 [.bool v] rfl (S1.out.src Try.underlying99) ?c1 ?c2 ?c3 ?_)
          case c1 => unfold maxLen; omega
          case c2 => omega
          case c3 => exact hsz
          intro a3 c3 w3 ho hg
          have R3 := BiRel.grown HN2.out HXS.out hf ho HO.out hg
          clear ho hg O1 S1 hsz HO hf hb hd
          go_wp2_with fail
          refine ⟨⟨j + 1, by omega, by simp, ?_⟩, by simp [intOf]; omega⟩
          rw [byteBits_take_succ x j hlt2, ← HV.out, ← List.append_assoc]
          exact R3
        · obtain rfl : j = 8 := by omega
          clear hd
          have hd : decide (((8 : Nat) : Int) < 8) = false := by simp
          go_wp2_with fail
          refine ⟨⟨k + 1, by rw [hlen.out]; omega, by simp, a2, n2, c2, rfl, ?_, ?_, hf⟩, by simp [intOf]; omega⟩
          · rw [← HN2.out, take_snoc l k (by rw [hlen.out]; exact hlt), bitsB_snoc, ← HX.out, ← HL.out, List.take_of_length_le (by rw [byteBits_length]; omega)]
          · rw [take_snoc l k (by rw [hlen.out]; exact hlt), bitsB_snoc, ← HX.out, ← HL.out]
            have := HO.out
            rwa [List.take_of_length_le (by rw [byteBits_length]; omega)] at this
    · obtain rfl : k = n := by omega
      rw [List.take_of_length_le (by rw [hlen.out]; exact Nat.le_refl _)] at hO HN1
      have HO := Lib.hid hO
      clear hO
      go_wp2_with fail
      go_ret
      refine ⟨a1, c1, ?_, HO.out, hf⟩
      rw [HN1.out]
      rfl
end Go.Proofs.Ytfgfhdkedmgfiaa
end

section
namespace Go.Sha
open Go.RowKit
theorem bitsB_getD (l : Bs) (k j : Nat) (hk : k < l.length) (hj : j < 8) : (bitsB l).getD (8 * k + j) false = (l.getD k 0).toNat.testBit j := by
  induction l generalizing k with
  | nil => simp at hk
  | cons x l ih =>
    have e : bitsB (x :: l) = byteBits x ++ bitsB l := rfl
    rw [e]
    simp only [List.getD_eq_getElem?_getD] at ih ⊢
    cases k with
    | zero =>
      rw [List.getElem?_append_left (by rw [byteBits_length]; omega)]
      simp [byteBits, hj]
    | succ k =>
      simp only [List.length_cons] at hk
      rw [List.getElem?_append_right (by rw [byteBits_length]; omega), byteBits_length, show 8 * (k + 1) + j - 8 = 8 * k + j by omega, ih k (by omega)]
      simp
theorem or_bit : ∀ x, x < 256 → ∀ j, j < 8 → bits BinOp.or IntKind.u8 ((x % 2 ^ j : Nat) : Int) ((2 ^ j : Nat) : Int) = ((if x.testBit j then x % 2 ^ (j + 1) else x % 2 ^ j + 2 ^ j : Nat) : Int) := by decide +kernel
theorem shl8 : ∀ j, j < 8 → ((2 : Int) ^ j % 256) = ((2 ^ j : Nat) : Int) := by decide +kernel
theorem or_yes (x : UInt8) (j : Nat) (hj : j < 8) (h : x.toNat.testBit j = true) : bits BinOp.or IntKind.u8 ((x.toNat % 2 ^ j : Nat) : Int) ((2 ^ j : Nat) : Int) = ((x.toNat % 2 ^ (j + 1) : Nat) : Int) := by
  rw [or_bit x.toNat x.toNat_lt j hj, if_pos h]
theorem mod_no (x j : Nat) (h : x.testBit j = false) : x % 2 ^ (j + 1) = x % 2 ^ j := by
  rw [Nat.testBit_eq_decide_div_mod_eq] at h
  simp only [decide_eq_false_iff_not] at h
  rw [Nat.pow_succ, Nat.mod_mul, show x / 2 ^ j % 2 = 0 by omega]
  omega
end Go.Sha
namespace Go.Proofs.Ytfgfhdkedmgfiaa
open Go.ChangeShapes Go.WideShapes Go.ChangeAt Go.RowKit Go.Sha
def YiRel (w : World) (L : Bs) (v : Value) (wr : World) : Prop := ∃ a n c, v = .slice a n c ∧ L.length = n ∧ Ow wr w.heap.size 5 a c L ∧ Fr [] w wr
def YoRel (w : World) (l : Bs) (v i : Value) (wr : World) : Prop := ∃ k : Nat, k ≤ l.length ∧ i = .int .i64 ((8 * k : Nat) : Int) ∧ YiRel w (l.take k) v wr
def YkRel (x : UInt8) (b j : Value) : Prop := ∃ k : Nat, k ≤ 8 ∧ j = .int .i64 k ∧ b = .int .u8 ((x.toNat % 2 ^ k : Nat) : Int)
theorem Ow.row {w : World} {base e n c : Nat} {a : Option Addr} {l : Bs} (h : Ow w base e a c l) (hn : l.length = n) : w.ownsRow base e 1 (.slice a n c) n (l.map bv) := by subst hn; exact h
theorem YiRel.grown {w wr w1 : World} {L : Bs} {v : UInt8} {a a' : Option Addr} {n c c' : Nat} (hL : L.length = n) {xs : List Value} (hxs : xs = L.map bv) (hf : Fr [] w wr) (ho : w1.ownsRow w.heap.size 5 1 (.slice a' (n + 1) c') (n + 1) (xs ++ [.int .u8 v.toNat])) (hO : Ow wr w.heap.size 5 a c L) (hg : (wr.alloc (.cells #[.int .u8 v.toNat] 5)).grownBy w1 (Value.slice a n c).ownBlock) :
    YiRel w (L ++ [v]) (.slice a' (n + 1) c') w1 := by
  subst hxs
  refine ⟨a', n + 1, c', rfl, by simp [hL], Ow.of ho (by simp [hL]) (by simp [bv]), ?_⟩
  refine (hf.alloc _).grown hg (fun q hq => .inl ?_)
  cases a with
  | none => simp [Value.ownBlock] at hq
  | some ad =>
    have := hO.block
    simp [Value.ownBlock] at hq
    omega

set_option maxRecDepth 100000 in
set_option maxHeartbeats 1000000 in
theorem bytesOf_any (a0 : Option Addr) (n c : Nat) (l : Bs) (w : World) (h : SlB w a0 n c (bitsB l)) (hn : n ≤ 140737488355328) :
    Calls Try.prog 92 #[.slice a0 n c] w (RetO 5 l w) := by
  obtain ⟨i0, hi, hz0, hz1, hz2⟩ := info_parts info5
  have hlen : n = 8 * l.length := by rw [← h.len, bitsB_length]
  obtain ⟨m, hm⟩ : ∃ m, m = l.length := ⟨_, rfl⟩
  rw [← hm] at hlen
  subst hlen
  have HM := Lib.hid hm
  clear hm
  have hc := h.cap
  have hmx := h.max
  unfold maxLen at hmx
  have HS := Lib.hid h
  clear h
  go_enter Try.func92, Try.ntmps92
  go_wp2_with fail
  go_loopw [3, 4] (fun v i wr => YoRel w l v i wr) (fun _ i _ => 8 * m - (intOf i).toNat)
  case atStart => exact ⟨0, by omega, rfl, none, 0, 0, rfl, rfl, Ow.nil _ _ _, Fr.refl _ _⟩
  case round =>
    obtain ⟨k, hk, rfl, a1, n1, c1, rfl, hn1, hO, hf⟩ := hrel
    rw [← HM.out] at hk
    have hn1k : n1 = k := by rw [← hn1, List.length_take, ← HM.out]; omega
    have HN1 := Lib.hid hn1
    clear hn1
    obtain ⟨i, hi8⟩ : ∃ i, i = 8 * k := ⟨_, rfl⟩
    rw [← hi8]
    have HI := Lib.hid hi8
    by_cases hlt : k < m
    · have S1 := HS.out.keep0 hf
      obtain ⟨b, o, rfl, hcel⟩ : ∃ b o, a0 = some ⟨b, o, none⟩ ∧ ∀ i, i < 8 * m → wr.cell? ⟨b, o + i, none⟩ = some (.bool ((bitsB l).getD i false)) := by
        rcases S1.cel with h0 | h0
        · omega
        · exact h0
      obtain ⟨x, hx⟩ : ∃ x, x = l.getD k 0 := ⟨_, rfl⟩
      have hcx : ∀ j, j < 8 → wr.cell? ⟨b, o + (i + j), none⟩ = some (.bool (x.toNat.testBit j)) := fun j hj => by
        rw [hcel (i + j) (by omega), hi8, bitsB_getD l k j (by rw [← HM.out]; exact hlt) hj, hx]
      have HC := Lib.hid hcx
      have HX := Lib.hid hx
      have HO := Lib.hid hO
      have hib : i + 8 ≤ 8 * m := by omega
      clear hx hcx hcel S1 hO hi8
      have hn1b : n1 + 1 ≤ 140737488355328 := by omega
      clear hn1k
      go_wp2_with fail
      go_loop [5, 6] (fun v j => YkRel x v j) (fun _ j => 8 - (intOf j).toNat)
      case atStart => exact ⟨0, by omega, rfl, by simp [Nat.mod_one]⟩
      case round =>
        obtain ⟨j, hj, rfl, rfl⟩ := hrel
        by_cases hlt2 : j < 8
        · have q0 := HC.out j hlt2
          have b1 : (i : Int) + (j : Int) < 8 * (m : Int) := by omega
          have hd : decide ((j : Int) < 8) = true := by simp; omega
          obtain ⟨t, ht⟩ : ∃ t, t = x.toNat.testBit j := ⟨_, rfl⟩
          rw [← ht] at q0
          have HT := Lib.hid ht
          clear ht
          cases t
          · go_wp2_with fail
            refine ⟨⟨j + 1, by omega, by simp, ?_⟩, by simp [intOf]; omega⟩
            rw [mod_no _ _ HT.out.symm]
          · go_wp2_with fail
            refine ⟨⟨j + 1, by omega, by simp, ?_⟩, by simp [intOf]; omega⟩
            rw [← or_yes x j hlt2 HT.out.symm, shl8 j hlt2]
            simp
        · obtain rfl : j = 8 := by omega
          have hx8 : x.toNat % 2 ^ 8 = x.toNat := Nat.mod_eq_of_lt x.toNat_lt
          rw [hx8]
          have hd : decide (((8 : Nat) : Int) < 8) = false := by simp
          have f1 : Fr [] wr (wr.alloc (.cells #[.int .u8 x.toNat] 5)) := (Fr.refl _ _).alloc _
          obtain ⟨xs, hxs⟩ : ∃ xs, xs = (l.take k).map bv := ⟨_, rfl⟩
          have O1 : Hid ((wr.alloc (.cells #[.int .u8 x.toNat] 5)).ownsRow w.heap.size 5 1 (.slice a1 n1 c1) n1 xs) := by rw [hxs]; exact Ow.row (HO.out.keep0 f1) HN1.out
          have HXS := Lib.hid hxs
          clear hxs hx8
          have S1 := Lib.hid (Sl.one wr x 5)
          have hsz : w.heap.size ≤ (wr.alloc (.cells #[.int .u8 x.toNat] 5)).heap.size := by simp; have := hf.size; omega
          clear f1
          go_wp2_with (at_builtin; refine wpList_append_src _ rfl _ _ 22 22 rfl w.heap.size 5 i0 (.int .u8 0) 1 1 Try.underlying22 hi hz0 hz1 hz2 rfl a1 n1 c1 xs rfl O1.out _ 1 [.int .u8 x.toNat] rfl (S1.out.src Try.underlying22) ?c1 ?c2 ?c3 ?_)
          case c1 => unfold maxLen; omega
          case c3 => have := hf.size; omega
          intro a3 c3 w3 ho hg
          have R3 := YiRel.grown HN1.out HXS.out hf ho HO.out hg
          clear ho hg O1 S1 hsz HO hf hd
          go_wp2_with fail
          refine ⟨⟨k + 1, by rw [← HM.out]; omega, by rw [HI.out]; simp; omega, ?_⟩, by simp [intOf]; omega⟩
          rw [take_snoc l k (by rw [← HM.out]; exact hlt), ← HX.out]
          exact R3
    · obtain rfl : k = m := by omega
      rw [List.take_of_length_le (by rw [HM.out]; exact Nat.le_refl _)] at hO HN1
      have HO := Lib.hid hO
      clear hO hn1k
      go_wp2_with fail
      go_ret
      refine ⟨a1, c1, ?_, HO.out, hf⟩
      rw [HN1.out]
      rfl
end Go.Proofs.Ytfgfhdkedmgfiaa
end

section
namespace Go.Sha
open Go.RowKit
/-- how many bits 0 lie between the two bits 1 -/
def padZ (n rate : Nat) : Nat := ((-(n : Int) - 2) % (rate : Int)).toNat
def padB (l : Bits) (rate : Nat) : Bits := l ++ [true] ++ List.replicate (padZ l.length rate) false ++ [true]
theorem padZ_lt (n rate : Nat) (h : 0 < rate) : padZ n rate < rate := by
  unfold padZ
  have h1 := Int.emod_nonneg (-(n : Int) - 2) (show (rate : Int) ≠ 0 by omega)
  have h2 := Int.emod_lt_of_pos (-(n : Int) - 2) (show (0 : Int) < rate by omega)
  omega
theorem padZ_int (n rate : Nat) (h : 0 < rate) : (-(n : Int) - 2) % (rate : Int) = (padZ n rate : Int) := by
  unfold padZ
  have h1 := Int.emod_nonneg (-(n : Int) - 2) (show (rate : Int) ≠ 0 by omega)
  omega
theorem OwB.none0 (w : World) (e base : Nat) (hb : base ≤ w.heap.size) : OwB (w.alloc (.cells #[] e)) base e (some ⟨w.heap.size, 0, none⟩) 0 [] :=
  ⟨rfl, .inr ⟨w.heap.size, 0, #[], rfl, hb, Go.heap_alloc_new w _, by simp, by simp [maxLen], by simp, by simp⟩⟩
end Go.Sha
namespace Go.Proofs.Ytfgfhdkedmgfiaa
open Go.ChangeShapes Go.WideShapes Go.ChangeAt Go.RowKit Go.Sha
def PdRel (w : World) (L : Bits) (z : Nat) (v i : Value) (wr : World) : Prop := ∃ j : Nat, j ≤ z ∧ i = .int .i64 (j : Int) ∧ BiRel w (L ++ List.replicate (z - j) false) v wr

set_option maxRecDepth 100000 in
set_option maxHeartbeats 1000000 in
theorem padded_any (a0 : Option Addr) (n c : Nat) (l : Bits) (rate : Nat) (w : World) (h : SlB w a0 n c l) (h0 : 0 < rate) (hr : rate ≤ 1600) (hn : n + 1700 ≤ 140737488355328) :
    Calls Try.prog 100 #[.slice a0 n c, .int .i64 (rate : Int)] w (RetOB 4 (padB l rate) w) := by
  obtain ⟨i0, hi, hz0, hz1, hz2⟩ := info_parts info4
  have hlen := Lib.hid h.len
  have hmx := h.max
  unfold maxLen at hmx
  have hc := h.cap
  obtain ⟨z, hz⟩ : ∃ z, z = padZ n rate := ⟨_, rfl⟩
  have hzl : z < rate := by rw [hz]; exact padZ_lt n rate h0
  have MZ : Hid ((-(n : Int) - 2) % (rate : Int) = (z : Int)) := by rw [hz]; exact padZ_int n rate h0
  have HZ := Lib.hid hz
  clear hz
  have f0 : Fr [] w (w.alloc (.cells #[] 4)) := (Fr.refl _ _).alloc _
  have O0 := Lib.hid (OwB.none0 w 4 w.heap.size (Nat.le_refl _))
  have S0 := Lib.hid (h.keep0 f0)
  clear h
  obtain ⟨ys, hys⟩ : ∃ ys, ys = l.map Value.bool := ⟨_, rfl⟩
  have Y0 : Hid (Src Try.prog 1 99 (.slice a0 n c) n ys (w.alloc (.cells #[] 4))) := by rw [hys]; exact S0.out.src Try.underlying99
  have HYS := Lib.hid hys
  clear hys S0
  have X1 : Hid (0 + n ≤ maxLen) := by show _ ≤ _; unfold maxLen; omega
  have X2 : Hid ((0 + n) * 1 ≤ 140737488355328) := by show _ ≤ _; omega
  have X3 : Hid (w.heap.size ≤ (w.alloc (.cells #[] 4)).heap.size) := by show _ ≤ _; simp
  go_enter Try.func100, Try.ntmps100
  go_wp2_with (at_builtin; refine wpList_append_src _ rfl _ _ 99 99 rfl w.heap.size 4 i0 (.bool false) 1 1 Try.underlying99 hi hz0 hz1 hz2 rfl (some ⟨w.heap.size, 0, none⟩) 0 0 [] rfl O0.out _ n ys rfl Y0.out X1.out X2.out X3.out ?_)
  intro a1 c1 w1 ho hg
  have hf : Fr [] w w1 := f0.grown hg (by simp [Value.ownBlock])
  have HO : Hid (OwB w1 w.heap.size 4 a1 c1 l) := OwB.of ho hlen.out.symm HYS.out
  have HN : Hid (l.length = n) := hlen
  clear ho hg f0 O0 Y0 X1 X2 X3
  obtain ⟨xs, hxs⟩ : ∃ xs, xs = (l).map Value.bool := ⟨_, rfl⟩
  have f1 : Fr [] w1 (w1.alloc (.cells #[.bool true] 4)) := (Fr.refl _ _).alloc _
  have O1 : Hid ((w1.alloc (.cells #[.bool true] 4)).ownsRow w.heap.size 4 1 (.slice a1 n c1) n xs) := by rw [hxs]; exact OwB.row (HO.out.keep0 f1) HN.out
  have HXS := Lib.hid hxs
  clear hxs f1
  have S1 := Lib.hid (SlB.one w1 true 4)
  have X1 : Hid (n + 1 ≤ maxLen) := by show _ ≤ _; unfold maxLen; omega
  have X2 : Hid ((n + 1) * 1 ≤ 140737488355328) := by show _ ≤ _; omega
  have X3 : Hid (w.heap.size ≤ (w1.alloc (.cells #[.bool true] 4)).heap.size) := by show _ ≤ _; have := hf.size; simp; omega
  go_wp2_with (at_builtin; refine wpList_append_src _ rfl _ _ 99 99 rfl w.heap.size 4 i0 (.bool false) 1 1 Try.underlying99 hi hz0 hz1 hz2 rfl a1 n c1 xs rfl O1.out _ 1 [.bool true] rfl (S1.out.src Try.underlying99) X1.out X2.out X3.out ?_)
  intro a3 c3 w3 ho hg
  have R2 := BiRel.grown HN.out HXS.out hf ho HO.out hg
  clear ho hg O1 S1 HO hf HN HXS X1 X2 X3
  obtain ⟨a4, n4, c4, hv4, hn4, hO, hf⟩ := R2
  simp only [Value.slice.injEq] at hv4
  obtain ⟨rfl, rfl, rfl⟩ := hv4
  have HN := Lib.hid hn4
  have HO := Lib.hid hO
  clear hn4 hO
  go_wp2_with fail
  refine (mod_nat _ _ z _ (by omega) (by omega) MZ.out).mono ?_
  rintro e w' ⟨rfl, rfl⟩
  go_wp2_with fail
  go_loopw [5, 6] (fun v i wr => PdRel w (l ++ [true]) z v i wr) (fun _ i _ => (intOf i).toNat)
  case atStart => exact ⟨z, Nat.le_refl _, rfl, _, _, _, rfl, by simpa using HN.out, by simpa using HO.out, hf⟩
  case round =>
    clear HN HO hf
    obtain ⟨j, hj, rfl, a2, n2, c2, rfl, hn2, hO, hf⟩ := hrel
    have hn2b : n2 = n + 1 + (z - j) := by rw [← hn2]; simp [hlen.out]; omega
    have HN := Lib.hid hn2
    have HO := Lib.hid hO
    clear hn2 hO
    by_cases hlt : 0 < j
    · have hb : n2 + 1 ≤ 140737488355328 := by omega
      have HB := Lib.hid hn2b
      clear hn2b
      obtain ⟨Q, hQ⟩ : ∃ Q, Q = l ++ [true] ++ List.replicate (z - j) false := ⟨_, rfl⟩
      rw [← hQ] at HN HO
      have HQ := Lib.hid hQ
      clear hQ
      obtain ⟨xs, hxs⟩ : ∃ xs, xs = (Q).map Value.bool := ⟨_, rfl⟩
      have f1 : Fr [] wr (wr.alloc (.cells #[.bool false] 4)) := (Fr.refl _ _).alloc _
      have O1 : Hid ((wr.alloc (.cells #[.bool false] 4)).ownsRow w.heap.size 4 1 (.slice a2 n2 c2) n2 xs) := by rw [hxs]; exact OwB.row (HO.out.keep0 f1) HN.out
      have HXS := Lib.hid hxs
      clear hxs f1
      have S1 := Lib.hid (SlB.one wr false 4)
      have X1 : Hid (n2 + 1 ≤ maxLen) := by show _ ≤ _; unfold maxLen; omega
      have X2 : Hid ((n2 + 1) * 1 ≤ 140737488355328) := by show _ ≤ _; omega
      have X3 : Hid (w.heap.size ≤ (wr.alloc (.cells #[.bool false] 4)).heap.size) := by show _ ≤ _; have := hf.size; simp; omega
      go_wp2_with (at_builtin; refine wpList_append_src _ rfl _ _ 99 99 rfl w.heap.size 4 i0 (.bool false) 1 1 Try.underlying99 hi hz0 hz1 hz2 rfl a2 n2 c2 xs rfl O1.out _ 1 [.bool false] rfl (S1.out.src Try.underlying99) X1.out X2.out X3.out ?_)
      intro a3 c3 w3 ho hg
      have R3 := BiRel.grown HN.out HXS.out hf ho HO.out hg
      clear ho hg O1 S1 HO hf HN HXS X1 X2 X3
      go_wp2_with fail
      refine ⟨⟨j - 1, by omega, by congr 1; omega, ?_⟩, by simp [intOf]; omega⟩
      have e : l ++ [true] ++ List.replicate (z - (j - 1)) false = Q ++ [false] := by
        rw [HQ.out, show z - (j - 1) = z - j + 1 by omega, List.replicate_succ', List.append_assoc (l ++ [true])]
      rw [e]
      exact R3
    · obtain rfl : j = 0 := by omega
      have hb : n2 + 1 ≤ 140737488355328 := by omega
      have HB := Lib.hid hn2b
      clear hn2b
      obtain ⟨Q, hQ⟩ : ∃ Q, Q = l ++ [true] ++ List.replicate (z - 0) false := ⟨_, rfl⟩
      rw [← hQ] at HN HO
      have HQ := Lib.hid hQ
      clear hQ
      obtain ⟨xs, hxs⟩ : ∃ xs, xs = (Q).map Value.bool := ⟨_, rfl⟩
      have f1 : Fr [] wr (wr.alloc (.cells #[.bool true] 4)) := (Fr.refl _ _).alloc _
      have O1 : Hid ((wr.alloc (.cells #[.bool true] 4)).ownsRow w.heap.size 4 1 (.slice a2 n2 c2) n2 xs) := by rw [hxs]; exact OwB.row (HO.out.keep0 f1) HN.out
      have HXS := Lib.hid hxs
      clear hxs f1
      have S1 := Lib.hid (SlB.one wr true 4)
      have X1 : Hid (n2 + 1 ≤ maxLen) := by show _ ≤ _; unfold maxLen; omega
      have X2 : Hid ((n2 + 1) * 1 ≤ 140737488355328) := by show _ ≤ _; omega
      have X3 : Hid (w.heap.size ≤ (wr.alloc (.cells #[.bool true] 4)).heap.size) := by show _ ≤ _; have := hf.size; simp; omega
      go_wp2_with (at_builtin; refine wpList_append_src _ rfl _ _ 99 99 rfl w.heap.size 4 i0 (.bool false) 1 1 Try.underlying99 hi hz0 hz1 hz2 rfl a2 n2 c2 xs rfl O1.out _ 1 [.bool true] rfl (S1.out.src Try.underlying99) X1.out X2.out X3.out ?_)
      intro a3 c3 w3 ho hg
      have R3 := BiRel.grown HN.out HXS.out hf ho HO.out hg
      clear ho hg O1 S1 HO hf HN HXS X1 X2 X3
      obtain ⟨a5, n5, c5, hv5, hn5, hO5, hf5⟩ := R3
      simp only [Value.slice.injEq] at hv5
      obtain ⟨rfl, rfl, rfl⟩ := hv5
      have HN5 := Lib.hid hn5
      have HO5 := Lib.hid hO5
      clear hn5 hO5
      go_wp2_with fail
      go_ret
      have e : padB l rate = Q ++ [true] := by
        unfold padB
        rw [HQ.out, hlen.out, ← HZ.out]
        rfl
      rw [e]
      refine ⟨a3, c3, ?_, HO5.out, hf5⟩
      rw [HN5.out]
      rfl
end Go.Proofs.Ytfgfhdkedmgfiaa
end

section
namespace Go.Sha
open Go.RowKit
/-- where the bit with the number i of the state lies in the cube -/
def lin (i : Nat) : Nat := i / 64 % 5 * 320 + i / 320 * 64 + i % 64
/-- which bit of the state lies at the place j of the cube -/
def nil5 (j : Nat) : Nat := 64 * (5 * (j % 320 / 64) + j / 320) + j % 64
def cubeIn (l : Bits) (j : Nat) : Bool := l.getD (nil5 j) false
def rounds : Nat → (Nat → Bool) → Nat → Bool
  | 0, c => c
  | k + 1, c => iotaC k (chiC (piC (rhoC (thetaC (rounds k c)))))
/-- the permutation on 1600 bits -/
def permB (l : Bits) : Bits := (List.range 1600).map fun i => rounds 24 (cubeIn l) (lin i)
theorem permB_length (l : Bits) : (permB l).length = 1600 := by simp [permB]
theorem lin_lt (i : Nat) (h : i < 1600) : lin i < 1600 := by unfold lin; omega
theorem nil5_at (x y z : Nat) (_hx : x < 5) (hy : y < 5) (hz : z < 64) : nil5 (x * 320 + y * 64 + z) = 64 * (5 * y + x) + z := by
  unfold nil5
  rw [show (x * 320 + y * 64 + z) / 320 = x by omega, show (x * 320 + y * 64 + z) % 64 = z by omega, show (x * 320 + y * 64 + z) % 320 = y * 64 + z by omega, show (y * 64 + z) / 64 = y by omega]
theorem nil5_lt (j : Nat) (h : j < 1600) : nil5 j < 1600 := by unfold nil5; omega
theorem lin_at (x y z : Nat) (hx : x < 5) (_hy : y < 5) (hz : z < 64) : lin (64 * (5 * y + x) + z) = x * 320 + y * 64 + z := by
  unfold lin
  rw [show (64 * (5 * y + x) + z) / 64 = 5 * y + x by omega, show (64 * (5 * y + x) + z) / 320 = y by omega, show (64 * (5 * y + x) + z) % 64 = z by omega, show (5 * y + x) % 5 = x by omega]
theorem bit_ix (i : Nat) (h : i < 1600) : ∃ x y z, x < 5 ∧ y < 5 ∧ z < 64 ∧ i = 64 * (5 * y + x) + z := ⟨i / 64 % 5, i / 320, i % 64, by omega, by omega, by omega, by omega⟩
theorem cube_ix5 (j : Nat) (h : j < 1600) : ∃ x y z, x < 5 ∧ y < 5 ∧ z < 64 ∧ j = x * 320 + y * 64 + z := ⟨j / 320, j % 320 / 64, j % 64, by omega, by omega, by omega, by omega⟩
theorem nil5_inj {i j : Nat} (h : nil5 j = i) (hj : j < 1600) : j = lin i := by
  subst h
  obtain ⟨x, y, z, hx, hy, hz, rfl⟩ := cube_ix5 j hj
  rw [nil5_at x y z hx hy hz, lin_at x y z hx hy hz]
theorem nil5_lin (i : Nat) (h : i < 1600) : nil5 (lin i) = i := by
  obtain ⟨x, y, z, hx, hy, hz, rfl⟩ := bit_ix i h
  rw [lin_at x y z hx hy hz, nil5_at x y z hx hy hz]
theorem bcells_list (N : Nat) (c : Nat → Bool) : (bcells N c).toList = ((List.range N).map c).map Value.bool := by
  apply List.ext_getElem?
  intro i
  rw [Array.getElem?_toList]
  by_cases h : i < N
  · rw [bcells_get _ _ _ h]
    simp [h]
  · rw [Array.getElem?_eq_none (by rw [bcells_size]; omega)]
    rw [List.getElem?_eq_none (by simp; omega)]
theorem OwB.of_bools {w : World} {g e N base : Nat} {c : Nat → Bool} (h : BoolsAt w g e N c) (hb : base ≤ g) (hm : N ≤ maxLen) : OwB w base e (some ⟨g, 0, none⟩) N ((List.range N).map c) := by
  refine ⟨by simp, .inr ⟨g, N, bcells N c, by simp, hb, h, by simp, hm, by simp [bcells_size], ?_⟩⟩
  rw [bcells_list, List.take_of_length_le (by simp)]
theorem made_bools (n : Nat) : madeCells #[.bool false] n = bcells n fun _ => false := by
  rw [← bcells_false]
  apply Array.ext'
  rw [toList_madeCells_one]
end Go.Sha
namespace Go.Proofs.Ytfgfhdkedmgfiaa
open Go.ChangeShapes Go.WideShapes Go.ChangeAt Go.RowKit Go.Sha
theorem make_bools (n : Nat) (z : Int) (hz : z = n) (hn : n ≤ 140737488355328) : ∀ u : World, (Instr.makeSlice 99 (.int .i64 z) (.int .i64 z)).run Try.prog u =
    .ok (.slice (some ⟨u.heap.size, 0, none⟩) n n) (u.alloc (.cells (bcells n fun _ => false) 4)) := fun u => by
  subst hz
  obtain ⟨i0, hi, hz0, hz1, hz2⟩ := info_parts info4
  have h := run_make (P := Try.prog) u 99 4 i0 (.bool false) Try.underlying99 hi hz0 .i64 .i64 (n : Int) (n : Int) (by omega) (Int.le_refl _) (by rw [hz2]; omega) (by omega)
  have e : ((n : Int)).toNat = n := by omega
  rw [e] at h
  rw [← made_bools]
  simpa [hz1, Value.cells] using h

/-- the first k bits of the state laid into the cube -/
structure InRl (w : World) (a : Option Addr) (n c : Nat) (l : Bits) (k : Nat) (wr : World) : Prop where
  cube : BoolsAt wr w.heap.size 122 1600 (fun j => if nil5 j < k then cubeIn l j else false)
  sl : SlB wr a n c l
  fr : Fr [] w wr
theorem InRl.drew {w : World} {a : Option Addr} {n c : Nat} {l : Bits} {k : Nat} {wr : World} (h : InRl w a n c l k wr) : InRl w a n c l k wr.drew := ⟨h.cube, h.sl.keep0 (Fr.refl _ _).drew, h.fr.drew⟩
theorem InRl.step {w : World} {a : Option Addr} {n c : Nat} {l : Bits} {k : Nat} {wr : World} (h : InRl w a n c l k wr) (hs : ∀ x, a = some x → n ≠ 0 → x.block < w.heap.size) (hk : k < 1600) (X Y Z : Nat) (hX : X < 5) (hY : Y < 5) (hZ : Z < 64) (e : k = 64 * (5 * Y + X) + Z) (v : Bool) (hv : v = l.getD k false) :
    InRl w a n c l (k + 1) (wr.setCell ⟨w.heap.size, X * 320 + Y * 64 + Z, none⟩ (.bool v)) := by
  have hl : X * 320 + Y * 64 + Z = lin k := by rw [e, lin_at X Y Z hX hY hZ]
  have hn : nil5 (lin k) = k := nil5_lin k hk
  refine ⟨(h.cube.set v).congr (fun j hj => ?_), h.sl.keep (S := [w.heap.size]) ((Fr.refl _ _).setCell _ _ (.inr (by simp))) (fun x hx h0 => ?_), h.fr.setCell _ _ (.inl (by simp))⟩
  · simp only [upd]
    rw [hl]
    by_cases e2 : j = lin k
    · subst e2
      rw [if_pos rfl, if_pos (by omega), hv]
      unfold cubeIn
      rw [hn]
    · rw [if_neg e2]
      have : nil5 j ≠ k := fun e3 => e2 (nil5_inj e3 hj)
      by_cases h3 : nil5 j < k
      · rw [if_pos h3, if_pos (by omega)]
      · rw [if_neg h3, if_neg (by omega)]
  · have := hs x hx h0
    simp
    omega
structure CubeRl (w : World) (l : Bits) (k : Nat) (wr : World) : Prop where
  cube : BoolsAt wr w.heap.size 122 1600 (rounds k (cubeIn l))
  fr : Fr [] w wr
structure OutRl (w : World) (l : Bits) (g k : Nat) (wr : World) : Prop where
  cube : BoolsAt wr w.heap.size 122 1600 (rounds 24 (cubeIn l))
  out : BoolsAt wr g 4 1600 (fun i => if i < k then rounds 24 (cubeIn l) (lin i) else false)
  fr : Fr [] w wr
theorem OutRl.step {w : World} {l : Bits} {g k : Nat} {wr : World} (h : OutRl w l g k wr) (hg : w.heap.size ≤ g) (hne : w.heap.size < g) (v : Bool) (hv : v = rounds 24 (cubeIn l) (lin k)) : OutRl w l g (k + 1) (wr.setCell ⟨g, k, none⟩ (.bool v)) := by
  refine ⟨h.cube.other (by omega) _, (h.out.set v).congr (fun i _ => ?_), h.fr.setCell _ _ (.inl hg)⟩
  simp only [upd]
  by_cases e : i = k
  · subst e; rw [if_pos rfl, if_pos (by omega), hv]
  · rw [if_neg e]
    by_cases h5 : i < k
    · rw [if_pos h5, if_pos (by omega)]
    · rw [if_neg h5, if_neg (by omega)]
theorem SlB.at' {w : World} {a : Option Addr} {n c : Nat} {l : Bits} (h : SlB w a n c l) (k : Nat) (hk : k < n) : ∃ b o, a = some ⟨b, o, none⟩ ∧ ∀ i, i < n → w.cell? ⟨b, o + i, none⟩ = some (.bool (l.getD i false)) := by
  rcases h.cel with h0 | h0
  · omega
  · exact h0
attribute [local irreducible] wpStill
set_option maxRecDepth 100000 in
set_option maxHeartbeats 2000000 in
theorem permuted_any (a : Option Addr) (c : Nat) (l : Bits) (w : World) (hS : SlB w a 1600 c l) : Calls Try.prog 101 #[.slice a 1600 c] w fun e w' => ∃ g, e = .returned (.slice (some ⟨g, 0, none⟩) 1600 1600) ∧ w.heap.size ≤ g ∧ OwB w' w.heap.size 4 (some ⟨g, 0, none⟩) 1600 (permB l) ∧ Fr [] w w' := by
  obtain ⟨b, o, rfl, hcel⟩ := SlB.at' hS 0 (by omega)
  have hbl := hS.lt rfl (by omega)
  simp only at hbl
  have R0 : InRl w (some ⟨b, o, none⟩) 1600 c l 0 (w.alloc (.cells (bcells 1600 fun _ => false) 122)) :=
    ⟨(BoolsAt.new w _ _ _).congr (fun j _ => by rw [if_neg (by omega)]), hS.keep0 ((Fr.refl _ _).alloc _), (Fr.refl _ _).alloc _⟩
  have hmax := hS.max
  unfold maxLen at hmax
  have hcap := hS.cap
  clear hS
  have HC := Lib.hid hcel
  clear hcel
  go_enter Try.func101, Try.ntmps101
  go_wp2_with (first | (with_reducible refine wpList_alloc_row rfl _ rfl _ zero68 ?_))
  generalize w.alloc (.cells (bcells 1600 fun _ => false) 122) = w0 at R0 ⊢
  go_loopw [10] (fun x wr => InRel (InRl w (some ⟨b, o, none⟩) 1600 c l) 1600 (fun X => X) x wr) (fun x _ => 1600 - (intOf x).toNat)
  case atStart => exact InRel.mk 0 0 (by omega) rfl rfl R0
  case round =>
    clear R0 w0
    obtain ⟨k, hk, rfl, hR⟩ := hrel
    by_cases hlt : k < 1600
    · go_wp2_with fail
      refine wp_region_still_tail 14 (by kernel_rfl) (by kernel_rfl) ?_
      change wpStill Try.prog _ wr.drew (fun a' => wpList Try.prog _ _ _ a' wr.drew) _ _
      have R1 := hR.drew
      clear hR
      generalize wr.drew = w1 at R1 ⊢
      obtain ⟨A, hA⟩ : ∃ A, A = k / 64 := ⟨_, rfl⟩
      obtain ⟨X, hX⟩ : ∃ X, X = A % 5 := ⟨_, rfl⟩
      obtain ⟨Y, hY⟩ : ∃ Y, Y = k / 320 := ⟨_, rfl⟩
      obtain ⟨Z, hZ⟩ : ∃ Z, Z = k % 64 := ⟨_, rfl⟩
      have d1 : Int.tdiv (k : Int) 64 = (A : Int) := by rw [Int.tdiv_eq_ediv_of_nonneg (by omega)]; omega
      have d2 : Int.tmod (A : Int) 5 = (X : Int) := by rw [Int.tmod_eq_emod_of_nonneg (by omega)]; omega
      have d3 : Int.tdiv (k : Int) 320 = (Y : Int) := by rw [Int.tdiv_eq_ediv_of_nonneg (by omega)]; omega
      have d4 : Int.tmod (k : Int) 64 = (Z : Int) := by rw [Int.tmod_eq_emod_of_nonneg (by omega)]; omega
      have e1 : IntKind.i64.wrap (A : Int) = (A : Int) := IntWalk.i64_in _ (by omega)
      have e2 : IntKind.i64.wrap (X : Int) = (X : Int) := IntWalk.i64_in _ (by omega)
      have e3 : IntKind.i64.wrap (Y : Int) = (Y : Int) := IntWalk.i64_in _ (by omega)
      have e4 : IntKind.i64.wrap (Z : Int) = (Z : Int) := IntWalk.i64_in _ (by omega)
      have b0 : (k : Int) < 1600 := by omega
      have b1 : (X : Int) < 5 := by omega
      have b2 : (Y : Int) < 5 := by omega
      have b3 : (Z : Int) < 64 := by omega
      have hkk : Hid (k = 64 * (5 * Y + X) + Z) := by show _ = _; omega
      clear hA hX hY hZ
      obtain ⟨b', o', hbo, hc1⟩ := SlB.at' R1.sl k hlt
      simp only [Option.some.injEq, Addr.mk.injEq] at hbo
      obtain ⟨rfl, rfl, _⟩ := hbo
      have q0 := hc1 k hlt
      have HC1 := Lib.hid hc1
      clear hc1
      have q3 := R1.cube.cell (i := X * 320 + Y * 64 + Z) (by omega)
      have q4 := R1.cube.fz (X * 320 + Y * 64 + Z)
      generalize hv : l.getD k false = v0 at q0
      have HV := Lib.hid hv
      clear hv
      generalize (if nil5 (X * 320 + Y * 64 + Z) < k then cubeIn l (X * 320 + Y * 64 + Z) else false) = v3 at q3
      simp only [List.take_succ_cons, List.take_zero, List.drop_succ_cons, List.drop_zero]
      repeat still_step
      refine wpStill_nil ?_
      clear d1 d2 d3 d4 e1 e2 e3 e4
      go_wp2_with fail
      exact InRel.succ hlt rfl (R1.step (fun x hx _ => by simp at hx; subst hx; exact hbl) hlt X Y Z (by omega) (by omega) (by omega) hkk.out _ HV.out.symm)
    · obtain rfl : k = 1600 := by omega
      rw [show ((1600 : Nat) : Int) = 1600 from rfl]
      have B1 : BoolsAt wr w.heap.size 122 1600 (rounds 0 (cubeIn l)) := hR.cube.congr (fun j hj => by rw [if_pos (nil5_lt j hj)]; rfl)
      have F1 := hR.fr
      clear hR
      go_wp2_with fail
      go_loopw [5] (fun x wr => InRel (CubeRl w l) 24 (fun X => X) x wr) (fun x _ => 24 - (intOf x).toNat)
      case atStart => exact InRel.mk 0 0 (by omega) rfl rfl ⟨B1, F1⟩
      case round =>
        clear B1 F1
        obtain ⟨k, hk, rfl, hR⟩ := hrel
        obtain ⟨B1, F1⟩ := hR
        by_cases hlt : k < 24
        · have HB := Lib.hid B1
          clear B1
          go_wp2_with (refine wpList_load_row rfl _ _ rfl _ rfl _ _ _ _ HB.out Try.underlying122 rfl (by rw [bcells_size]; exact size68) ?_; refine Hid.out ?_)
          show wpList _ _ _ _ _ _
          go_wp2_with fail
          refine (theta_any _ _).mono ?_
          rintro e w1 ⟨rfl, f1⟩
          go_wp2_with fail
          refine (rho_any _ _).mono ?_
          rintro e w2 ⟨rfl, f2⟩
          go_wp2_with fail
          refine (pi_any _ _).mono ?_
          rintro e w3 ⟨rfl, f3⟩
          go_wp2_with fail
          refine (chi_any _ _).mono ?_
          rintro e w4 ⟨rfl, f4⟩
          go_wp2_with fail
          refine (iota_any _ k hlt _).mono ?_
          rintro e w5 ⟨rfl, f5⟩
          have F5 := (((f1.trans f2).trans f3).trans f4).trans f5
          have B5 := Lib.hid (BoolsAt.keep HB.out F5 (by simp))
          have G5 := F1.trans F5
          clear f1 f2 f3 f4 f5 F5 HB F1
          go_wp2_with (refine wpList_store_bits rfl _ _ _ rfl w.heap.size rfl 122 (bcells 1600 (rounds (k + 1) (cubeIn l))) (bcells 1600 (rounds k (cubeIn l))) rfl B5.out (by rw [bcells_size, bcells_size]) (bcells_one _ _) (by rw [bcells_size]; exact size68) ?_; refine Hid.out ?_)
          show wpList _ _ _ _ _ _
          have B6 := BoolsAt.setRow B5.out (rounds (k + 1) (cubeIn l))
          have G6 : Fr [] w (w5.setRow w.heap.size (bcells 1600 (rounds (k + 1) (cubeIn l)))) := G5.setRow _ _ (.inl (by omega))
          clear B5 G5
          generalize w5.setRow w.heap.size (bcells 1600 (rounds (k + 1) (cubeIn l))) = w6 at B6 G6 ⊢
          have H6 := Lib.hid B6
          clear B6
          go_wp2_with fail
          exact InRel.succ (R := CubeRl w l) (f := fun X => X) hlt rfl ⟨H6.out, G6⟩
        · obtain rfl : k = 24 := by omega
          rw [show ((24 : Nat) : Int) = 24 from rfl]
          have HB := Lib.hid B1
          clear B1
          have hmk := make_bools 1600 1600 rfl (by omega)
          go_wp2_with fail
          clear hmk
          have f1 : Fr [] wr (wr.alloc (.cells (bcells 1600 fun _ => false) 4)) := (Fr.refl _ _).alloc _
          have O1 : OutRl w l wr.heap.size 0 (wr.alloc (.cells (bcells 1600 fun _ => false) 4)) := ⟨HB.out.keep f1 (by simp), (BoolsAt.new wr _ _ _).congr (fun j _ => by rw [if_neg (by omega)]), F1.trans f1⟩
          have hlt2 := HB.out.lt
          clear f1 HB
          obtain ⟨g, hg⟩ : ∃ g, g = wr.heap.size := ⟨_, rfl⟩
          rw [← hg] at O1 hlt2 ⊢
          have hgw : w.heap.size ≤ g := by rw [hg]; exact F1.size
          clear F1 hg
          generalize wr.alloc (.cells (bcells 1600 fun _ => false) 4) = w1 at O1 ⊢
          go_loopw [42] (fun x wr => InRel (OutRl w l g) 1600 (fun X => X) x wr) (fun x _ => 1600 - (intOf x).toNat)
          case atStart => exact InRel.mk 0 0 (by omega) rfl rfl O1
          case round =>
            clear O1 w1
            obtain ⟨k, hk, rfl, hR⟩ := hrel
            by_cases hlt : k < 1600
            · have q0 := hR.cube.cell (i := k / 64 % 5 * 320 + k / 320 * 64 + k % 64) (by omega)
              have q1 := hR.out.cell (i := k) hlt
              have q2 := hR.out.fz k
              generalize hv : rounds 24 (cubeIn l) (k / 64 % 5 * 320 + k / 320 * 64 + k % 64) = v0 at q0
              have HV := Lib.hid hv
              clear hv
              generalize (if k < k then rounds 24 (cubeIn l) (lin k) else false) = v1 at q1
              go_wp2_with fail
              exact InRel.succ (R := OutRl w l g) (f := fun X => X) hlt rfl (hR.step hgw hlt2 v0 HV.out.symm)
            · obtain rfl : k = 1600 := by omega
              go_wp2_with fail
              go_ret
              refine ⟨g, rfl, hgw, ?_, hR.fr⟩
              have h1 := OwB.of_bools (base := w.heap.size) (hR.out.congr (c' := fun i => rounds 24 (cubeIn l) (lin i)) (fun i hi => by rw [if_pos hi])) hgw (by simp [maxLen])
              exact h1
end Go.Proofs.Ytfgfhdkedmgfiaa
end

section
namespace Go.Sha
open Go.RowKit
/-- k bits of p, from the place i on, laid over the first bits of s -/
def xorK (s p : Bits) (i : Nat) : Nat → Bits
  | 0 => s
  | k + 1 => (xorK s p i k).set k ((xorK s p i k).getD k false != p.getD (i + k) false)
theorem xorK_length (s p : Bits) (i k : Nat) : (xorK s p i k).length = s.length := by
  induction k with
  | zero => rfl
  | succ k ih => simp [xorK, ih]
/-- m blocks absorbed -/
def absB (p : Bits) (rate : Nat) : Nat → Bits
  | 0 => List.replicate 1600 false
  | m + 1 => permB (xorK (absB p rate m) p (m * rate) rate)
theorem absB_length (p : Bits) (rate m : Nat) : (absB p rate m).length = 1600 := by
  cases m with
  | zero => exact List.length_replicate
  | succ m => simp [absB, permB_length]
def sqB (s : Bits) : Nat → Bits
  | 0 => s
  | k + 1 => permB (sqB s k)
theorem sqB_length (s : Bits) (k : Nat) (h : s.length = 1600) : (sqB s k).length = 1600 := by
  cases k with
  | zero => exact h
  | succ k => exact permB_length _
/-- what has been squeezed, k permutations later -/
def outB (s : Bits) (rate : Nat) : Nat → Bits
  | 0 => s.take rate
  | k + 1 => outB s rate k ++ (sqB s (k + 1)).take rate
theorem outB_length (s : Bits) (rate k : Nat) (h : s.length = 1600) (hr : rate ≤ 1600) : (outB s rate k).length = (k + 1) * rate := by
  induction k with
  | zero => simp [outB, h]; omega
  | succ k ih =>
    simp only [outB, List.length_append, ih, List.length_take, sqB_length s _ h]
    rw [Nat.min_eq_left hr, Nat.succ_mul (k + 1)]
/-- how many permutations it takes -/
def outN (rate many : Nat) : Nat := (many - 1) / rate
def spongeB (l : Bits) (rate many : Nat) : Bits :=
  (outB (absB (padB l rate) rate ((padB l rate).length / rate)) rate (outN rate many)).take many
theorem outN_more {rate many k : Nat} (h0 : 0 < rate) (h : (k + 1) * rate < many) : k + 1 ≤ outN rate many := by
  unfold outN
  rw [Nat.le_div_iff_mul_le h0]
  omega
theorem outN_last {rate many k : Nat} (h0 : 0 < rate) (hk : k ≤ outN rate many) (h : many ≤ (k + 1) * rate) : k = outN rate many := by
  refine Nat.le_antisymm hk ?_
  unfold outN
  by_cases hm : many = 0
  · subst hm; simp
  · have : (many - 1) / rate < k + 1 := by rw [Nat.div_lt_iff_lt_mul h0]; omega
    omega
theorem padB_length (l : Bits) (rate : Nat) : (padB l rate).length = l.length + padZ l.length rate + 2 := by simp [padB]; omega
theorem padB_dvd (l : Bits) (rate : Nat) (h : 0 < rate) : ∃ M, (padB l rate).length = M * rate := by
  have h1 := padZ_int l.length rate h
  have h2 : ((rate : Int)) ∣ (-(l.length : Int) - 2) - (padZ l.length rate : Int) := by rw [← h1]; exact Int.dvd_self_sub_emod
  have h3 : (rate : Int) ∣ (((padB l rate).length : Nat) : Int) := by
    rw [padB_length]
    have e : (((l.length + padZ l.length rate + 2 : Nat)) : Int) = -((-(l.length : Int) - 2) - (padZ l.length rate : Int)) := by push_cast; omega
    rw [e]
    exact Int.dvd_neg.2 h2
  obtain ⟨M, hM⟩ := Int.natCast_dvd_natCast.1 h3
  exact ⟨M, by rw [hM, Nat.mul_comm]⟩
theorem OwB.take {w : World} {base e c k : Nat} {a : Option Addr} {l : Bits} (h : OwB w base e a c l) (hk : k ≤ l.length) : OwB w base e a c (l.take k) := by
  obtain ⟨h1, h2⟩ := h
  refine ⟨by simp, ?_⟩
  have hlk : (l.take k).length = k := by simp; omega
  rcases h2 with ⟨h3, h0⟩ | ⟨g, cap, cur, hv, hb, hg, hn, hm, hs, ht⟩
  · have : k = 0 := by omega
    subst this
    left
    simp only [Value.slice.injEq] at h3 ⊢
    exact ⟨⟨h3.1, by simp, h3.2.2⟩, by simp⟩
  · right
    refine ⟨g, cap, cur, ?_, hb, hg, by omega, hm, hs, ?_⟩
    · simp only [Value.slice.injEq] at hv
      rw [hv.1, hv.2.2]
    · have e : cur.toList.take ((l.take k).length * 1) = (cur.toList.take (l.length * 1)).take k := by
        rw [List.take_take, hlk]
        congr 1
        omega
      rw [e, ht, List.map_take]
theorem OwB.keepAt {S : List Nat} {w w' : World} {base e c g : Nat} {l : Bits} (h : OwB w base e (some ⟨g, 0, none⟩) c l) (hf : Fr S w w') (hs : g ∉ S) : OwB w' base e (some ⟨g, 0, none⟩) c l := by
  obtain ⟨h1, h2⟩ := h
  refine ⟨h1, ?_⟩
  rcases h2 with h2 | ⟨g', cap, cur, hv, hg, hh, r⟩
  · exact .inl h2
  · have e : g = g' := by simp only [Value.slice.injEq, Option.some.injEq, Addr.mk.injEq] at hv; exact hv.1.1
    subst e
    exact .inr ⟨g, cap, cur, hv, hg, hf.obj hh hs, r⟩
end Go.Sha
namespace Go.Proofs.Ytfgfhdkedmgfiaa
open Go.ChangeShapes Go.WideShapes Go.ChangeAt Go.RowKit Go.Sha
/-- a state that reads as S in block g, beside p -/
structure StAt (w : World) (g : Nat) (S : Bits) (ap : Option Addr) (np cp : Nat) (p : Bits) (wr : World) : Prop where
  own : OwB wr w.heap.size 4 (some ⟨g, 0, none⟩) 1600 S
  len : S.length = 1600
  sl : SlB wr ap np cp p
  ne : ∀ x, ap = some x → np ≠ 0 → x.block ≠ g
  ge : w.heap.size ≤ g
  fr : Fr [] w wr
theorem StAt.drew {w wr : World} {g : Nat} {S : Bits} {ap : Option Addr} {np cp : Nat} {p : Bits} (h : StAt w g S ap np cp p wr) : StAt w g S ap np cp p wr.drew :=
  ⟨h.own, h.len, h.sl.keep0 (Fr.refl _ _).drew, h.ne, h.ge, h.fr.drew⟩
theorem StAt.set {w wr : World} {g : Nat} {S : Bits} {ap : Option Addr} {np cp : Nat} {p : Bits} (h : StAt w g S ap np cp p wr) (k : Nat) (hk : k < 1600) (v : Bool) :
    StAt w g (S.set k v) ap np cp p (wr.setCell ⟨g, k, none⟩ (.bool v)) := by
  refine ⟨h.own.set (by rw [h.len]; exact hk) v, by simp [h.len], h.sl.keep (S := [g]) ((Fr.refl _ _).setCell _ _ (.inr (by simp))) (fun x hx h0 => by simp; exact h.ne x hx h0), h.ne, h.ge, h.fr.setCell _ _ (.inl h.ge)⟩
def SpRel (w : World) (ap : Option Addr) (np cp : Nat) (p : Bits) (rate M : Nat) (s i : Value) (wr : World) : Prop :=
  ∃ m g i', m ≤ M ∧ i' = m * rate ∧ i = .int .i64 ((i' : Nat) : Int) ∧ s = .slice (some ⟨g, 0, none⟩) 1600 1600 ∧ StAt w g (absB p rate m) ap np cp p wr
def SqRel (w : World) (S : Bits) (rate many : Nat) (s out : Value) (wr : World) : Prop :=
  ∃ k g a n c, k ≤ outN rate many ∧ s = .slice (some ⟨g, 0, none⟩) 1600 1600 ∧ OwB wr w.heap.size 4 (some ⟨g, 0, none⟩) 1600 (sqB S k) ∧ out = .slice a n c ∧ n = (k + 1) * rate ∧ OwB wr w.heap.size 4 a c (outB S rate k) ∧ Fr [] w wr

def slLen' : Value → Nat | .slice _ n _ => n | _ => 0
/-- bits of output in a slice of one's own -/
def RetX' (w : World) (L : Nat) (l : Bits) (e : Ending) (w' : World) : Prop := ∃ a c, e = .returned (.slice a L c) ∧ OwB w' w.heap.size 4 a c l ∧ Fr [] w w'
attribute [local irreducible] wpStill
set_option maxRecDepth 100000 in
set_option maxHeartbeats 2000000 in
theorem sponge_any (a0 : Option Addr) (n c : Nat) (l : Bits) (rate many : Nat) (w : World) (h : SlB w a0 n c l) (h0 : 0 < rate) (hr : rate ≤ 1600) (hn : n + 1700 ≤ 140737488355328) (hmany : many ≤ 70368744177664) :
    Calls Try.prog 93 #[.slice a0 n c, .int .i64 (rate : Int), .int .i64 (many : Int)] w (RetX' w many (spongeB l rate many)) := by
  obtain ⟨i0, hi, hz0, hz1, hz2⟩ := info_parts info4
  have hmk := make_bools 1600 1600 rfl (by omega)
  have HS := Lib.hid h
  clear h
  go_enter Try.func93, Try.ntmps93
  go_wp2_with fail
  clear hmk
  have f1 : Fr [] w (w.alloc (.cells (bcells 1600 fun _ => false) 4)) := (Fr.refl _ _).alloc _
  have S1 := HS.out.keep0 f1
  have O1 : OwB (w.alloc (.cells (bcells 1600 fun _ => false) 4)) w.heap.size 4 (some ⟨w.heap.size, 0, none⟩) 1600 (absB (padB l rate) rate 0) := by
    have := OwB.of_bools (base := w.heap.size) (BoolsAt.new w 4 1600 fun _ => false) (Nat.le_refl _) (by simp [maxLen])
    have e : (List.range 1600).map (fun _ => false) = absB (padB l rate) rate 0 := by simp [absB, List.map_const']
    rw [e] at this
    exact this
  have hg1 : w.heap.size < (w.alloc (.cells (bcells 1600 fun _ => false) 4)).heap.size := by simp
  generalize w.alloc (.cells (bcells 1600 fun _ => false) 4) = w1 at f1 S1 O1 hg1 ⊢
  refine (padded_any _ _ _ _ _ _ S1 h0 hr hn).mono ?_
  rintro e w2 ⟨ap, cp, rfl, O2, f2⟩
  obtain ⟨P, hP⟩ : ∃ P, P = padB l rate := ⟨_, rfl⟩
  have hPl : P.length ≤ n + 1602 := by
    have := padZ_lt l.length rate h0
    have := HS.out.len
    rw [hP, padB_length]
    omega
  obtain ⟨M, hM⟩ : ∃ M, P.length = M * rate := by rw [hP]; exact padB_dvd l rate h0
  rw [← hP] at O2 O1 ⊢
  have HP := Lib.hid hP
  clear hP
  obtain ⟨np, hnp⟩ : ∃ np, np = P.length := ⟨_, rfl⟩
  rw [← hnp] at hPl hM ⊢
  have A0 : StAt w w.heap.size (absB P rate 0) ap np cp P w2 := by
    refine ⟨O1.keep0 f2, absB_length _ _ _, by rw [hnp]; exact O2.sl, fun x hx _ => ?_, Nat.le_refl _, f1.trans f2⟩
    subst hx
    have := O2.block.2.2.1
    omega
  have HM := Lib.hid hM
  have HNP := Lib.hid hnp
  clear hM hnp O2 O1 S1 f2 f1 hg1
  have H0 := Lib.hid A0
  clear A0
  go_wp2_with fail
  go_loopw [7, 9] (fun s i wr => SpRel w ap np cp P rate M s i wr) (fun _ i _ => np - (intOf i).toNat)
  case atStart => exact ⟨0, w.heap.size, 0, by omega, by simp, rfl, rfl, H0.out⟩
  case round =>
    clear H0
    obtain ⟨m, g, i, hm, him, rfl, rfl, hA⟩ := hrel
    have HI := Lib.hid him
    have hcp := hA.sl.cap
    have hcm := hA.sl.max
    unfold maxLen at hcm
    by_cases hlt : m < M
    · have hi2 : i + rate ≤ np := by rw [him, HM.out, ← Nat.succ_mul]; exact Nat.mul_le_mul_right _ hlt
      clear him
      have HA := Lib.hid hA
      clear hA
      have hip : i < np := by omega
      have hip2 : decide (i < np) = true := by simp; omega
      go_wp2_with fail
      clear hip2
      go_loopw [10] (fun k wr => InRel (fun k wr => StAt w g (xorK (absB P rate m) P i k) ap np cp P wr) rate (fun X => X) k wr) (fun k _ => rate - (intOf k).toNat)
      case atStart => exact InRel.mk 0 0 (by omega) rfl rfl HA.out
      case round =>
        clear HA
        obtain ⟨k, hk, rfl, hR⟩ := hrel
        by_cases hlt2 : k < rate
        · go_wp2_with fail
          refine wp_region_still_tail 14 (by kernel_rfl) (by kernel_rfl) ?_
          change wpStill Try.prog _ wr.drew (fun a' => wpList Try.prog _ _ _ a' wr.drew) _ _
          have R1 := hR.drew
          clear hR
          generalize wr.drew = w3 at R1 ⊢
          obtain ⟨X, hX⟩ : ∃ X, X = xorK (absB P rate m) P i k := ⟨_, rfl⟩
          rw [← hX] at R1
          have HX := Lib.hid hX
          clear hX
          have q0 := (R1.own.cell (k := k) (by rw [R1.len]; omega)).1
          have q1 := (R1.own.cell (k := k) (by rw [R1.len]; omega)).2
          obtain ⟨b, o, rfl, hcel⟩ := SlB.at' R1.sl (i + k) (by omega)
          have q2 := hcel (i + k) (by omega)
          clear hcel
          obtain ⟨v0, hv0⟩ : ∃ v0, v0 = X.getD k false := ⟨_, rfl⟩
          obtain ⟨v1, hv1⟩ : ∃ v1, v1 = P.getD (i + k) false := ⟨_, rfl⟩
          rw [← hv0] at q0
          rw [← hv1] at q2
          have HV := Lib.hid (And.intro hv0 hv1)
          clear hv0 hv1
          have e1 : IntKind.i64.wrap ((i : Int) + (k : Int)) = (i : Int) + (k : Int) := IntWalk.i64_in _ (by omega)
          have e2 : ((i : Int) + (k : Int)).toNat = i + k := by omega
          have b1 : (i : Int) + (k : Int) < (np : Int) := by omega
          have b2 : (k : Int) < 1600 := by omega
          have b3 : (0 : Int) ≤ (i : Int) + (k : Int) := by omega
          have hlk : k < 1600 := by omega
          simp only [List.take_succ_cons, List.take_zero, List.drop_succ_cons, List.drop_zero]
          repeat still_step
          refine wpStill_nil ?_
          clear e1 e2
          go_wp2_with fail
          refine InRel.succ (R := fun k wr => StAt w g (xorK (absB P rate m) P i k) (some ⟨b, o, none⟩) np cp P wr) (f := fun X => X) hlt2 rfl ?_
          have := R1.set k hlk (!(v0 == v1))
          rw [HX.out] at this
          have e : (xorK (absB P rate m) P i k).set k (!(v0 == v1)) = xorK (absB P rate m) P i (k + 1) := by rw [HV.out.1, HV.out.2, HX.out]; rfl
          rw [e] at this
          exact this
        · obtain rfl : k = rate := by omega
          go_wp2_with fail
          have hR' : StAt w g (xorK (absB P k m) P i k) ap np cp P wr := hR
          refine (permuted_any _ _ _ _ (hR'.own.sl_at (by rw [xorK_length, absB_length]))).mono ?_
          rintro e w4 ⟨g4, rfl, hg4, O4, f4⟩
          have A4 : StAt w g4 (absB P k (m + 1)) ap np cp P w4 := by
            refine ⟨?_, absB_length _ _ _, hR'.sl.keep0 f4, fun x hx hn0 => ?_, Nat.le_trans hR'.fr.size hg4, hR'.fr.trans f4⟩
            · show OwB _ _ _ _ _ (permB _)
              rw [← HI.out]
              exact O4.mono hR'.fr.size
            · have := hR'.sl.lt hx hn0
              omega
          have H4 := Lib.hid A4
          clear A4 hR hR' O4 f4
          go_wp2_with fail
          refine ⟨⟨m + 1, g4, i + k, hlt, by rw [HI.out, Nat.succ_mul], by simp, rfl, H4.out⟩, by simp [intOf]; omega⟩
    · obtain rfl : m = M := by omega
      have hin : i = np := by rw [him, HM.out]
      subst hin
      clear him
      obtain ⟨S, hS⟩ : ∃ S, S = absB P rate m := ⟨_, rfl⟩
      have hSl : S.length = 1600 := by rw [hS, absB_length]
      obtain ⟨hO, _, _, _, hge, hf⟩ := hA
      rw [← hS] at hO
      have HO := Lib.hid hO
      have HSS := Lib.hid hS
      have HSL := Lib.hid hSl
      clear hO hS hSl
      have f1 : Fr [] wr (wr.alloc (.cells #[] 4)) := (Fr.refl _ _).alloc _
      have O1 := Lib.hid (OwB.none0 wr 4 w.heap.size hf.size)
      obtain ⟨ys, hys⟩ : ∃ ys, ys = (S.take rate).map Value.bool := ⟨_, rfl⟩
      have Y0 : Hid (Src Try.prog 1 99 (.slice (some ⟨g, 0, none⟩) rate 1600) rate ys (wr.alloc (.cells #[] 4))) := by
        rw [hys]
        exact (((HO.out.keep0 f1).sl_at HSL.out).take rate hr).src Try.underlying99
      have HYS := Lib.hid hys
      clear hys
      have X1 : Hid (0 + rate ≤ maxLen) := by show _ ≤ _; unfold maxLen; omega
      have X2 : Hid ((0 + rate) * 1 ≤ 140737488355328) := by show _ ≤ _; omega
      have X3 : Hid (w.heap.size ≤ (wr.alloc (.cells #[] 4)).heap.size) := by show _ ≤ _; have := hf.size; simp; omega
      go_wp2_with (at_builtin; refine wpList_append_src _ rfl _ _ 99 99 rfl w.heap.size 4 i0 (.bool false) 1 1 Try.underlying99 hi hz0 hz1 hz2 rfl (some ⟨wr.heap.size, 0, none⟩) 0 0 [] rfl O1.out _ rate ys rfl Y0.out X1.out X2.out X3.out ?_)
      intro a3 c3 w3 ho hg
      have hsz := hf.size
      have hgl := HO.out.block.2.2.2
      simp only at hgl
      have f3 : Fr [wr.heap.size] wr w3 := (f1.mono (by simp)).grown hg (fun q hq => by simp [Value.ownBlock] at hq; subst hq; exact .inr (by simp))
      have F3 : Fr [] w w3 := (hf.trans f1).grown hg (fun q hq => by simp [Value.ownBlock] at hq; omega)
      have O3 : OwB w3 w.heap.size 4 a3 c3 (outB S rate 0) := OwB.of ho (by simp [outB, HSL.out]; omega) (by rw [HYS.out]; rfl)
      have G3 : OwB w3 w.heap.size 4 (some ⟨g, 0, none⟩) 1600 (sqB S 0) := HO.out.keepAt f3 (by simp; omega)
      have HO3 := Lib.hid O3
      have HG3 := Lib.hid G3
      clear O3 G3 ho hg f1 O1 Y0 HYS X1 X2 X3 HO f3 hf
      go_wp2_with fail
      go_loopw [7, 11] (fun s out wr => SqRel w S rate many s out wr) (fun _ out _ => many - slLen' out)
      case atStart => exact ⟨0, g, a3, rate, c3, by omega, rfl, HG3.out, rfl, by omega, HO3.out, F3⟩
      case round =>
        clear HO3 HG3 F3 hgl hsz
        obtain ⟨k, g1, a1, n1, c1, hk, rfl, hG, rfl, hn1, hO, hf⟩ := hrel
        have HG := Lib.hid hG
        have HO := Lib.hid hO
        have HN := Lib.hid hn1
        clear hG hO
        by_cases hlt : n1 < many
        · have hkl : k + 1 ≤ outN rate many := outN_more h0 (by rw [← hn1]; exact hlt)
          clear hn1
          go_wp2_with fail
          refine (permuted_any _ _ _ _ (HG.out.sl_at (sqB_length _ _ HSL.out))).mono ?_
          rintro e w4 ⟨g4, rfl, hg4, O4, f4⟩
          have H4 : Hid (OwB w4 w.heap.size 4 (some ⟨g4, 0, none⟩) 1600 (sqB S (k + 1))) := O4.mono hf.size
          have F4 := hf.trans f4
          obtain ⟨xs, hxs⟩ : ∃ xs, xs = (outB S rate k).map Value.bool := ⟨_, rfl⟩
          have OL : Hid ((outB S rate k).length = n1) := by show _ = _; rw [outB_length S rate k HSL.out hr, ← HN.out]
          have O1 : Hid (w4.ownsRow w.heap.size 4 1 (.slice a1 n1 c1) n1 xs) := by rw [hxs]; exact OwB.row (HO.out.keep0 f4) OL.out
          obtain ⟨ys, hys⟩ : ∃ ys, ys = ((sqB S (k + 1)).take rate).map Value.bool := ⟨_, rfl⟩
          have Y0 : Hid (Src Try.prog 1 99 (.slice (some ⟨g4, 0, none⟩) rate 1600) rate ys w4) := by
            rw [hys]
            exact ((H4.out.sl_at (sqB_length _ _ HSL.out)).take rate hr).src Try.underlying99
          have HXS := Lib.hid (And.intro hxs hys)
          clear hxs hys
          have X1 : Hid (n1 + rate ≤ maxLen) := by show _ ≤ _; unfold maxLen; omega
          have X2 : Hid ((n1 + rate) * 1 ≤ 140737488355328) := by show _ ≤ _; omega
          have X3 : Hid (w.heap.size ≤ w4.heap.size) := F4.size
          have hO1 : ∀ ad, a1 = some ad → w.heap.size ≤ ad.block ∧ ad.block < wr.heap.size := fun ad e => by
            have := HO.out
            rw [e] at this
            exact ⟨this.block.2.2.1, this.block.2.2.2⟩
          have HO1 := Lib.hid hO1
          clear hO1 O4 f4 HG HO
          go_wp2_with (at_builtin; refine wpList_append_src _ rfl _ _ 99 99 rfl w.heap.size 4 i0 (.bool false) 1 1 Try.underlying99 hi hz0 hz1 hz2 rfl a1 n1 c1 xs rfl O1.out _ rate ys rfl Y0.out X1.out X2.out X3.out ?_)
          intro a5 c5 w5 ho hg
          have F5 : Fr [] w w5 := F4.grown hg (fun q hq => by
            cases a1 with
            | none => simp [Value.ownBlock] at hq
            | some ad =>
              have := (HO1.out ad rfl).1
              simp [Value.ownBlock] at hq
              omega)
          have O5 : OwB w5 w.heap.size 4 a5 c5 (outB S rate (k + 1)) := OwB.of ho (by simp only [outB, List.length_append, OL.out, List.length_take, sqB_length _ _ HSL.out]; omega) (by rw [HXS.out.1, HXS.out.2, ← List.map_append]; rfl)
          have G5 : OwB w5 w.heap.size 4 (some ⟨g4, 0, none⟩) 1600 (sqB S (k + 1)) := H4.out.keepAt (S := (Value.slice a1 n1 c1).ownBlock.toList) ((Fr.refl _ _).grown hg (fun q hq => by rw [hq]; exact .inr (by simp))) (fun hq => by
            cases a1 with
            | none => simp [Value.ownBlock] at hq
            | some ad =>
              have := (HO1.out ad rfl).2
              simp [Value.ownBlock] at hq
              omega)
          have H5 := Lib.hid (And.intro O5 G5)
          clear O5 G5 ho hg O1 Y0 X1 X2 X3 H4 HO1
          go_wp2_with fail
          refine ⟨⟨k + 1, g4, a5, n1 + rate, c5, hkl, rfl, H5.out.2, rfl, by rw [HN.out, Nat.succ_mul (k + 1)], H5.out.1, F5⟩, by simp [slLen']; omega⟩
        · have hke : k = outN rate many := outN_last h0 hk (by rw [← hn1]; omega)
          clear hn1
          subst hke
          have OL : Hid ((outB S rate (outN rate many)).length = n1) := by show _ = _; rw [outB_length S rate _ HSL.out hr, ← HN.out]
          have hcc : n1 ≤ c1 := by have := HO.out.sl.cap; rw [OL.out] at this; exact this
          have hcm : c1 ≤ 9223372036854775807 := by have := HO.out.sl.max; unfold maxLen at this; omega
          go_wp2_with fail
          go_ret
          refine ⟨a1, c1, rfl, ?_, hf⟩
          unfold spongeB
          rw [← HP.out, ← HNP.out, HM.out, Nat.mul_div_cancel _ h0, ← HSS.out]
          exact HO.out.take (by rw [OL.out]; omega)
end Go.Proofs.Ytfgfhdkedmgfiaa
end

section
namespace Go.Sha
open Go.Extern.Keccak

theorem bne_xor (a b : Bool) : (a != b) = (a ^^ b) := by cases a <;> cases b <;> rfl
theorem rotl_eq (x k : Nat) (hk0 : k ≠ 0) (hk : k < 64) : rotl x k = 2 ^ k * (x % 2 ^ (64 - k)) + x / 2 ^ (64 - k) := by
  unfold rotl
  rw [if_neg (by simpa using hk0)]
  congr 1
  have e : m64 = 2 ^ (64 - k) * 2 ^ k := by rw [← Nat.pow_add, show 64 - k + k = 64 by omega]; rfl
  rw [e, Nat.mul_mod_mul_right, Nat.mul_comm]
theorem top_lt (x k : Nat) (hx : x < 2 ^ 64) (hk : k < 64) : x / 2 ^ (64 - k) < 2 ^ k := by
  apply Nat.div_lt_of_lt_mul
  rw [← Nat.pow_add, show 64 - k + k = 64 by omega]
  exact hx
theorem rotl_bit (x k z : Nat) (hx : x < 2 ^ 64) (hk : k < 64) (hz : z < 64) : (rotl x k).testBit z = x.testBit ((z + 64 - k) % 64) := by
  by_cases hk0 : k = 0
  · subst hk0
    rw [show (z + 64 - 0) % 64 = z by omega]
    simp [rotl]
  · rw [rotl_eq x k hk0 hk, Nat.testBit_two_pow_mul_add _ (top_lt x k hx hk)]
    by_cases h : z < k
    · rw [if_pos h, Nat.testBit_div_two_pow, show (z + 64 - k) % 64 = z + (64 - k) by omega]
    · rw [if_neg h, Nat.testBit_mod_two_pow, show (z + 64 - k) % 64 = z - k by omega, decide_eq_true (by omega), Bool.true_and]
theorem rotl_lt (x k : Nat) (hx : x < 2 ^ 64) (hk : k < 64) : rotl x k < 2 ^ 64 := by
  by_cases hk0 : k = 0
  · subst hk0
    simpa [rotl] using hx
  · rw [rotl_eq x k hk0 hk]
    have h1 := top_lt x k hx hk
    have h2 : x % 2 ^ (64 - k) < 2 ^ (64 - k) := Nat.mod_lt _ (Nat.two_pow_pos _)
    have h3 : 2 ^ k * (x % 2 ^ (64 - k)) + 2 ^ k ≤ 2 ^ k * 2 ^ (64 - k) := by
      rw [← Nat.mul_succ]
      exact Nat.mul_le_mul_left _ h2
    rw [← Nat.pow_add, show k + (64 - k) = 64 by omega] at h3
    omega

/-- 25 lanes of 64 bits -/
structure Lanes (A : Array Nat) : Prop where
  size : A.size = 25
  lt : ∀ i, A.getD i 0 < 2 ^ 64
/-- the cube of lanes, laid flat -/
def cub (A : Array Nat) (i : Nat) : Bool := (A.getD (i / 320 + 5 * (i % 320 / 64)) 0).testBit (i % 64)
theorem cub_at (A : Array Nat) (x y z : Nat) (hy : y < 5) (hz : z < 64) : cub A (x * 320 + y * 64 + z) = (A.getD (x + 5 * y) 0).testBit z := by
  unfold cub
  rw [show (x * 320 + y * 64 + z) / 320 = x by omega, show (x * 320 + y * 64 + z) % 64 = z by omega, show (x * 320 + y * 64 + z) % 320 = y * 64 + z by omega, show (y * 64 + z) / 64 = y by omega]

def colA (a : Array Nat) (x : Nat) : Nat := (List.range 5).foldl (fun p y => p ^^^ a.getD (x % 5 + 5 * (y % 5)) 0) 0
def thA (a : Array Nat) : Array Nat :=
  let c := (Array.range 5).map fun x => colA a x
  let d := (Array.range 5).map fun x => c.getD ((x + 4) % 5) 0 ^^^ rotl (c.getD ((x + 1) % 5) 0) 1
  a.mapIdx fun i v => v ^^^ d.getD (i % 5) 0
def rpA (a : Array Nat) : Array Nat := (List.range 25).foldl (fun (b : Array Nat) i => b.setIfInBounds (i / 5 + 5 * ((2 * (i % 5) + 3 * (i / 5)) % 5)) (rotl (a.getD i 0) (rotations.getD i 0))) (Array.replicate 25 0)
def chA (b : Array Nat) : Array Nat := (Array.range 25).map fun i => b.getD ((i % 5) % 5 + 5 * ((i / 5) % 5)) 0 ^^^ ((m64 - 1 - b.getD ((i % 5 + 1) % 5 + 5 * ((i / 5) % 5)) 0) &&& b.getD ((i % 5 + 2) % 5 + 5 * ((i / 5) % 5)) 0)
def ioA (a : Array Nat) (rc : Nat) : Array Nat := a.setIfInBounds 0 (a.getD 0 0 ^^^ rc)
theorem round_eq (a : Array Nat) (rc : Nat) : round a rc = ioA (chA (rpA (thA a))) rc := rfl

theorem colA_eq (a : Array Nat) (x : Nat) : colA a x = ((((0 ^^^ a.getD (x % 5 + 5 * 0) 0) ^^^ a.getD (x % 5 + 5 * 1) 0) ^^^ a.getD (x % 5 + 5 * 2) 0) ^^^ a.getD (x % 5 + 5 * 3) 0) ^^^ a.getD (x % 5 + 5 * 4) 0 := rfl
theorem colA_lt {a : Array Nat} (h : Lanes a) (x : Nat) : colA a x < 2 ^ 64 := by
  rw [colA_eq]
  exact Nat.xor_lt_two_pow (Nat.xor_lt_two_pow (Nat.xor_lt_two_pow (Nat.xor_lt_two_pow (Nat.xor_lt_two_pow (by decide) (h.lt _)) (h.lt _)) (h.lt _)) (h.lt _)) (h.lt _)
theorem colA_bit (a : Array Nat) (x z : Nat) (hx : x < 5) (hz : z < 64) : (colA a x).testBit z = par (cub a) (x * 64 + z) 5 := by
  rw [colA_eq]
  simp only [par, Nat.testBit_xor, show (x * 64 + z) / 64 = x by omega, show (x * 64 + z) % 64 = z by omega, Nat.mod_eq_of_lt hx, cub_at a x _ z (show 0 < 5 by omega) hz, cub_at a x _ z (show 1 < 5 by omega) hz, cub_at a x _ z (show 2 < 5 by omega) hz, cub_at a x _ z (show 3 < 5 by omega) hz, cub_at a x _ z (show 4 < 5 by omega) hz, Nat.zero_testBit, bne_xor]
theorem getD_range_map (n : Nat) (f : Nat → Nat) (i : Nat) (h : i < n) : ((Array.range n).map f).getD i 0 = f i := by
  simp [Array.getD_eq_getD_getElem?, h]
theorem thA_at {a : Array Nat} (h : Lanes a) (x y : Nat) (hx : x < 5) (hy : y < 5) : (thA a).getD (x + 5 * y) 0 = a.getD (x + 5 * y) 0 ^^^ (colA a ((x + 4) % 5) ^^^ rotl (colA a ((x + 1) % 5)) 1) := by
  unfold thA
  simp only
  have hi : x + 5 * y < a.size := by rw [h.size]; omega
  have e : ∀ f : Nat → Nat → Nat, (a.mapIdx f).getD (x + 5 * y) 0 = f (x + 5 * y) (a.getD (x + 5 * y) 0) := fun f => by
    simp [Array.getD_eq_getD_getElem?, hi]
  rw [e, show (x + 5 * y) % 5 = x by omega, getD_range_map 5 _ x hx, getD_range_map 5 _ ((x + 4) % 5) (by omega), getD_range_map 5 _ ((x + 1) % 5) (by omega)]
theorem lane_ix (i : Nat) (h : i < 25) : ∃ x y, x < 5 ∧ y < 5 ∧ i = x + 5 * y := ⟨i % 5, i / 5, by omega, by omega, by omega⟩
theorem lanes_of {A : Array Nat} (hs : A.size = 25) (h : ∀ x y, x < 5 → y < 5 → A.getD (x + 5 * y) 0 < 2 ^ 64) : Lanes A := by
  refine ⟨hs, fun i => ?_⟩
  by_cases hi : i < 25
  · obtain ⟨x, y, hx, hy, rfl⟩ := lane_ix i hi
    exact h x y hx hy
  · rw [Array.getD_eq_getD_getElem?, Array.getElem?_eq_none (by omega)]
    decide
theorem thA_lanes {a : Array Nat} (h : Lanes a) : Lanes (thA a) := by
  refine lanes_of (by simp [thA, h.size]) fun x y hx hy => ?_
  rw [thA_at h x y hx hy]
  exact Nat.xor_lt_two_pow (h.lt _) (Nat.xor_lt_two_pow (colA_lt h _) (rotl_lt _ _ (colA_lt h _) (by decide)))
theorem thA_cub {a : Array Nat} (h : Lanes a) (i : Nat) (hi : i < 1600) : cub (thA a) i = thetaC (cub a) i := by
  obtain ⟨x, y, z, hx, hy, hz, rfl⟩ := cube_ix5 i hi
  rw [cub_at _ x y z hy hz, thA_at h x y hx hy, Nat.testBit_xor, Nat.testBit_xor, rotl_bit _ _ _ (colA_lt h _) (by decide) hz, colA_bit a _ _ (by omega) hz, colA_bit a _ _ (by omega) (by omega), ← cub_at a x y z hy hz]
  unfold thetaC
  rw [show (x * 320 + y * 64 + z) / 320 = x by omega, show (x * 320 + y * 64 + z) % 64 = z by omega, show (z + 64 - 1) % 64 = (z + 63) % 64 by omega, bne_xor, bne_xor]

theorem rhoO_lt (l : Nat) : rhoO l < 64 := by
  by_cases h : l < 25
  · have : ∀ l, l < 25 → rhoO l < 64 := by decide
    exact this l h
  · unfold rhoO
    rw [List.getD_eq_getElem?_getD, List.getElem?_eq_none (by simp; omega)]
    decide
theorem rp_lit (f : Nat → Nat → Nat) : (List.range 25).foldl (fun (b : Array Nat) i => b.setIfInBounds (i / 5 + 5 * ((2 * (i % 5) + 3 * (i / 5)) % 5)) (f i (rotations.getD i 0))) (Array.replicate 25 0) = #[f 0 0, f 6 44, f 12 43, f 18 21, f 24 14, f 3 28, f 9 20, f 10 3, f 16 45, f 22 61, f 1 1, f 7 6, f 13 25, f 19 8, f 20 18, f 4 27, f 5 36, f 11 10, f 17 15, f 23 56, f 2 62, f 8 55, f 14 39, f 15 41, f 21 2] := by kernel_rfl
theorem rpA_eq (a : Array Nat) : rpA a = #[rotl (a.getD 0 0) 0, rotl (a.getD 6 0) 44, rotl (a.getD 12 0) 43, rotl (a.getD 18 0) 21, rotl (a.getD 24 0) 14, rotl (a.getD 3 0) 28, rotl (a.getD 9 0) 20, rotl (a.getD 10 0) 3, rotl (a.getD 16 0) 45, rotl (a.getD 22 0) 61, rotl (a.getD 1 0) 1, rotl (a.getD 7 0) 6, rotl (a.getD 13 0) 25, rotl (a.getD 19 0) 8, rotl (a.getD 20 0) 18, rotl (a.getD 4 0) 27, rotl (a.getD 5 0) 36, rotl (a.getD 11 0) 10, rotl (a.getD 17 0) 15, rotl (a.getD 23 0) 56, rotl (a.getD 2 0) 62, rotl (a.getD 8 0) 55, rotl (a.getD 14 0) 39, rotl (a.getD 15 0) 41, rotl (a.getD 21 0) 2] := rp_lit fun i k => rotl (a.getD i 0) k
theorem rpA_at (a : Array Nat) : ∀ x, x < 5 → ∀ y, y < 5 → (rpA a).getD (x + 5 * y) 0 = rotl (a.getD ((x + 3 * y) % 5 + 5 * x) 0) (rhoO ((x + 3 * y) % 5 * 5 + x)) := by
  intro x hx y hy
  rw [rpA_eq]
  obtain rfl | rfl | rfl | rfl | rfl : x = 0 ∨ x = 1 ∨ x = 2 ∨ x = 3 ∨ x = 4 := by omega
  all_goals obtain rfl | rfl | rfl | rfl | rfl : y = 0 ∨ y = 1 ∨ y = 2 ∨ y = 3 ∨ y = 4 := by omega
  all_goals rfl
theorem rpA_lanes {a : Array Nat} (h : Lanes a) : Lanes (rpA a) := by
  refine lanes_of (by rw [rpA_eq]; rfl) fun x y hx hy => ?_
  rw [rpA_at a x hx y hy]
  exact rotl_lt _ _ (h.lt _) (rhoO_lt _)
theorem rpA_cub {a : Array Nat} (h : Lanes a) (i : Nat) (hi : i < 1600) : cub (rpA a) i = piC (rhoC (cub a)) i := by
  obtain ⟨x, y, z, hx, hy, hz, rfl⟩ := cube_ix5 i hi
  rw [cub_at _ x y z hy hz, rpA_at a x hx y hy, rotl_bit _ _ _ (h.lt _) (rhoO_lt _) hz, piC_at x y z hy hz]
  unfold rhoC
  rw [show ((x + 3 * y) % 5 * 320 + x * 64 + z) / 64 = (x + 3 * y) % 5 * 5 + x by omega, show ((x + 3 * y) % 5 * 320 + x * 64 + z) % 64 = z by omega, show ((x + 3 * y) % 5 * 5 + x) * 64 = (x + 3 * y) % 5 * 320 + x * 64 by omega, cub_at a _ x _ hx (Nat.mod_lt _ (by decide))]

theorem chA_at (b : Array Nat) (x y : Nat) (hx : x < 5) (hy : y < 5) : (chA b).getD (x + 5 * y) 0 = b.getD (x + 5 * y) 0 ^^^ ((m64 - 1 - b.getD ((x + 1) % 5 + 5 * y) 0) &&& b.getD ((x + 2) % 5 + 5 * y) 0) := by
  unfold chA
  rw [getD_range_map 25 _ _ (by omega), show (x + 5 * y) % 5 = x by omega, show (x + 5 * y) / 5 = y by omega, Nat.mod_eq_of_lt hx, Nat.mod_eq_of_lt hy]
theorem not_lt64 (v : Nat) : m64 - 1 - v < 2 ^ 64 := by unfold m64; omega
theorem not_bit (v z : Nat) (h : v < 2 ^ 64) (hz : z < 64) : (m64 - 1 - v).testBit z = !v.testBit z := by
  rw [show m64 - 1 - v = 2 ^ 64 - (v + 1) by unfold m64; omega, Nat.testBit_two_pow_sub_succ h]
  simp [hz]
theorem chA_lanes {b : Array Nat} (h : Lanes b) : Lanes (chA b) := by
  refine lanes_of (by simp [chA]) fun x y hx hy => ?_
  rw [chA_at b x y hx hy]
  exact Nat.xor_lt_two_pow (h.lt _) (Nat.and_lt_two_pow _ (h.lt _))
theorem chA_cub {b : Array Nat} (h : Lanes b) (i : Nat) (hi : i < 1600) : cub (chA b) i = chiC (cub b) i := by
  obtain ⟨x, y, z, hx, hy, hz, rfl⟩ := cube_ix5 i hi
  rw [cub_at _ x y z hy hz, chA_at b x y hx hy, Nat.testBit_xor, Nat.testBit_and, not_bit _ _ (h.lt _) hz]
  unfold chiC
  rw [show (x * 320 + y * 64 + z) / 320 = x by omega, show (x * 320 + y * 64 + z) % 320 = y * 64 + z by omega, ← Nat.add_assoc, ← Nat.add_assoc, cub_at b x y z hy hz, cub_at b _ y z hy hz, cub_at b _ y z hy hz, bne_xor]
end Go.Sha
end

section
namespace Go.Sha
open Go.Extern.Keccak

def Agree (c c' : Nat → Bool) : Prop := ∀ i, i < 1600 → c i = c' i
theorem par_congr {c c' : Nat → Bool} (h : Agree c c') (i : Nat) (hi : i < 320) : ∀ k, k ≤ 5 → par c i k = par c' i k
  | 0, _ => rfl
  | k + 1, hk => by
    simp only [par]
    rw [par_congr h i hi k (by omega), h _ (by omega)]
theorem thetaC_congr {c c' : Nat → Bool} (h : Agree c c') : Agree (thetaC c) (thetaC c') := fun i hi => by
  unfold thetaC
  rw [h i hi, par_congr h _ (by omega) 5 (by omega), par_congr h _ (by omega) 5 (by omega)]
theorem rhoC_congr {c c' : Nat → Bool} (h : Agree c c') : Agree (rhoC c) (rhoC c') := fun i hi => by
  unfold rhoC
  rw [h _ (by omega)]
theorem piC_congr {c c' : Nat → Bool} (h : Agree c c') : Agree (piC c) (piC c') := fun i hi => by
  unfold piC
  rw [h _ (by omega)]
theorem chiC_congr {c c' : Nat → Bool} (h : Agree c c') : Agree (chiC c) (chiC c') := fun i hi => by
  unfold chiC
  rw [h i hi, h _ (by omega), h _ (by omega)]
/-- the bits that iota adds -/
def iob (r i : Nat) : Bool :=
  if i = 0 then rcB (0 + 7 * r) else if i = 1 then rcB (1 + 7 * r) else if i = 3 then rcB (2 + 7 * r) else if i = 7 then rcB (3 + 7 * r)
  else if i = 15 then rcB (4 + 7 * r) else if i = 31 then rcB (5 + 7 * r) else if i = 63 then rcB (6 + 7 * r) else false
theorem iotaC_eq (r : Nat) (c : Nat → Bool) (i : Nat) : iotaC r c i = (c i != iob r i) := by
  unfold iotaC iob
  simp only [iotaN, upd, show 2 ^ 0 - 1 = 0 from rfl, show 2 ^ 1 - 1 = 1 from rfl, show 2 ^ 2 - 1 = 3 from rfl, show 2 ^ 3 - 1 = 7 from rfl, show 2 ^ 4 - 1 = 15 from rfl, show 2 ^ 5 - 1 = 31 from rfl, show 2 ^ 6 - 1 = 63 from rfl]
  by_cases h0 : i = 0
  · subst h0; simp
  by_cases h1 : i = 1
  · subst h1; simp
  by_cases h2 : i = 3
  · subst h2; simp
  by_cases h3 : i = 7
  · subst h3; simp
  by_cases h4 : i = 15
  · subst h4; simp
  by_cases h5 : i = 31
  · subst h5; simp
  by_cases h6 : i = 63
  · subst h6; simp
  simp [h0, h1, h2, h3, h4, h5, h6]
theorem iotaC_congr (r : Nat) {c c' : Nat → Bool} (h : Agree c c') : Agree (iotaC r c) (iotaC r c') := fun i hi => by
  rw [iotaC_eq, iotaC_eq, h i hi]
def RC (r : Nat) : Nat := roundConstants.getD r 0
theorem RC_bits : ∀ r, r < 24 → ∀ z, z < 64 → (RC r).testBit z = iob r z := by decide +kernel
theorem RC_lt : ∀ r, r < 24 → RC r < 2 ^ 64 := by decide +kernel
theorem iob_far (r i : Nat) (h : 64 ≤ i) : iob r i = false := by
  unfold iob
  rw [if_neg (by omega), if_neg (by omega), if_neg (by omega), if_neg (by omega), if_neg (by omega), if_neg (by omega), if_neg (by omega)]
theorem ioA_at {a : Array Nat} (h : Lanes a) (rc i : Nat) : (ioA a rc).getD i 0 = if i = 0 then a.getD 0 0 ^^^ rc else a.getD i 0 := by
  unfold ioA
  have hs := h.size
  simp only [Array.getD_eq_getD_getElem?]
  by_cases h0 : i = 0
  · subst h0
    rw [if_pos rfl, Array.getElem?_setIfInBounds_self_of_lt (by omega)]
    simp
  · rw [if_neg h0, Array.getElem?_setIfInBounds_ne (fun e => h0 e.symm)]
theorem ioA_lanes {a : Array Nat} (h : Lanes a) (rc : Nat) (hr : rc < 2 ^ 64) : Lanes (ioA a rc) := by
  refine ⟨by simp [ioA, h.size], fun i => ?_⟩
  rw [ioA_at h]
  split
  · exact Nat.xor_lt_two_pow (h.lt _) hr
  · exact h.lt _
theorem ioA_cub {a : Array Nat} (h : Lanes a) (r : Nat) (hr : r < 24) (i : Nat) (hi : i < 1600) : cub (ioA a (RC r)) i = iotaC r (cub a) i := by
  rw [iotaC_eq]
  obtain ⟨x, y, z, hx, hy, hz, rfl⟩ := cube_ix5 i hi
  rw [cub_at _ x y z hy hz, cub_at _ x y z hy hz, ioA_at h]
  by_cases h0 : x + 5 * y = 0
  · have hx0 : x = 0 := by omega
    have hy0 : y = 0 := by omega
    subst hx0 hy0
    simp only [Nat.zero_mul, Nat.zero_add, Nat.mul_zero, if_true]
    rw [Nat.testBit_xor, RC_bits r hr z hz, bne_xor]
  · rw [if_neg h0, iob_far r _ (by omega)]
    simp
theorem round_lanes {a : Array Nat} (h : Lanes a) (r : Nat) (hr : r < 24) : Lanes (round a (RC r)) := by
  rw [round_eq]
  exact ioA_lanes (chA_lanes (rpA_lanes (thA_lanes h))) _ (RC_lt r hr)
theorem round_cub {a : Array Nat} (h : Lanes a) (r : Nat) (hr : r < 24) {c : Nat → Bool} (hc : Agree (cub a) c) : Agree (cub (round a (RC r))) (iotaC r (chiC (piC (rhoC (thetaC c))))) := fun i hi => by
  rw [round_eq, ioA_cub (chA_lanes (rpA_lanes (thA_lanes h))) r hr i hi]
  refine iotaC_congr r (fun i hi => ?_) i hi
  rw [chA_cub (rpA_lanes (thA_lanes h)) i hi]
  refine chiC_congr (fun i hi => ?_) i hi
  rw [rpA_cub (thA_lanes h) i hi]
  refine piC_congr (rhoC_congr (fun i hi => ?_)) i hi
  rw [thA_cub h i hi]
  exact thetaC_congr hc i hi
def stA (a : Array Nat) (k : Nat) : Array Nat := (roundConstants.take k).foldl round a
theorem stA_succ (a : Array Nat) (k : Nat) (hk : k < 24) : stA a (k + 1) = round (stA a k) (RC k) := by
  unfold stA
  rw [List.take_succ_eq_append_getElem (show k < roundConstants.length from hk), List.foldl_append]
  simp only [List.foldl_cons, List.foldl_nil, RC]
  congr 1
  rw [List.getD_eq_getElem?_getD, List.getElem?_eq_getElem (show k < roundConstants.length from hk)]
  rfl
theorem stA_ok {a : Array Nat} (h : Lanes a) {c : Nat → Bool} (hc : Agree (cub a) c) : ∀ k, k ≤ 24 → Lanes (stA a k) ∧ Agree (cub (stA a k)) (rounds k c)
  | 0, _ => ⟨h, hc⟩
  | k + 1, hk => by
    obtain ⟨h1, h2⟩ := stA_ok h hc k (by omega)
    rw [stA_succ a k (by omega)]
    exact ⟨round_lanes h1 k (by omega), round_cub h1 k (by omega) h2⟩

/-! ### bytes and lanes -/
def valL (l : List Nat) : Nat := l.foldr (fun b acc => acc * 256 + b) 0
theorem valL_bit (l : List Nat) (h : ∀ b ∈ l, b < 256) (z : Nat) : (valL l).testBit z = (l.getD (z / 8) 0).testBit (z % 8) := by
  induction l generalizing z with
  | nil => simp [valL]
  | cons b l ih =>
    have e : valL (b :: l) = 2 ^ 8 * valL l + b := by simp [valL]; omega
    rw [e, Nat.testBit_two_pow_mul_add _ (show b < 2 ^ 8 from h b (by simp))]
    by_cases hz : z < 8
    · rw [if_pos hz, show z / 8 = 0 by omega, show z % 8 = z by omega]
      rfl
    · rw [if_neg hz, ih (fun x hx => h x (by simp [hx])), show (z - 8) % 8 = z % 8 by omega, show z / 8 = (z - 8) / 8 + 1 by omega]
      rfl
theorem valL_lt (l : List Nat) (h : ∀ b ∈ l, b < 256) : valL l < 256 ^ l.length := by
  induction l with
  | nil => simp [valL]
  | cons b l ih =>
    have e : valL (b :: l) = valL l * 256 + b := rfl
    have h1 := ih (fun x hx => h x (by simp [hx]))
    have h2 := h b (by simp)
    rw [e, List.length_cons, Nat.pow_succ]
    omega
def lanesOf (a : Bs) : Array Nat := (Array.range 25).map fun i => (List.range 8).foldr (fun j acc => acc * 256 + (a.getD (8 * i + j) 0).toNat) 0
theorem lanesOf_at (a : Bs) (i : Nat) (h : i < 25) : (lanesOf a).getD i 0 = valL ((List.range 8).map fun j => (a.getD (8 * i + j) 0).toNat) := by
  unfold lanesOf valL
  rw [getD_range_map 25 _ i h, List.foldr_map]
theorem mem_bytes (a : Bs) (i : Nat) : ∀ b ∈ (List.range 8).map (fun j => (a.getD (8 * i + j) 0).toNat), b < 256 := fun b hb => by
  obtain ⟨j, _, rfl⟩ := List.mem_map.1 hb
  exact UInt8.toNat_lt _
theorem lanesOf_ok (a : Bs) : Lanes (lanesOf a) := by
  refine lanes_of (by simp [lanesOf]) fun x y hx hy => ?_
  rw [lanesOf_at a _ (by omega)]
  exact Nat.lt_of_lt_of_eq (valL_lt _ (mem_bytes a _)) (by simp)
theorem lanesOf_bit (a : Bs) (i z : Nat) (hi : i < 25) (hz : z < 64) : ((lanesOf a).getD i 0).testBit z = (a.getD (8 * i + z / 8) 0).toNat.testBit (z % 8) := by
  rw [lanesOf_at a i hi, valL_bit _ (mem_bytes a i)]
  congr 1
  rw [List.getD_eq_getElem?_getD, List.getElem?_map, List.getElem?_range (by omega)]
  rfl
theorem lanesOf_cub (a : Bs) (ha : a.length = 200) : Agree (cub (lanesOf a)) (cubeIn (bitsB a)) := fun i hi => by
  obtain ⟨x, y, z, hx, hy, hz, rfl⟩ := cube_ix5 i hi
  unfold cubeIn
  rw [cub_at _ x y z hy hz, nil5_at x y z hx hy hz, lanesOf_bit a _ z (by omega) hz, show 64 * (5 * y + x) + z = 8 * (8 * (x + 5 * y) + z / 8) + z % 8 by omega, bitsB_getD a _ _ (by omega) (by omega)]
theorem kf_eq (a : Bs) : kf a = (List.range 200).map fun k => UInt8.ofNat ((stA (lanesOf a) 24).getD (k / 8) 0 / 256 ^ (k % 8) % 256) := rfl
theorem kf_bit (a : Bs) (k j : Nat) (hk : k < 200) (hj : j < 8) : ((kf a).getD k 0).toNat.testBit j = ((stA (lanesOf a) 24).getD (k / 8) 0).testBit (8 * (k % 8) + j) := by
  rw [kf_eq, List.getD_eq_getElem?_getD, List.getElem?_map, List.getElem?_range hk]
  simp only [Option.map_some, Option.getD_some]
  rw [UInt8.toNat_ofNat', show (256 : Nat) = 2 ^ 8 from rfl, Nat.testBit_mod_two_pow, Nat.testBit_mod_two_pow, ← Nat.pow_mul, Nat.testBit_div_two_pow, decide_eq_true hj]
  rw [Bool.true_and, Bool.true_and, Nat.add_comm]

set_option maxRecDepth 100000 in
theorem permB_bits (a : Bs) (ha : a.length = 200) : permB (bitsB a) = bitsB (kf a) := by
  apply List.ext_getElem?
  intro i
  by_cases hi : i < 1600
  · have e : ∀ l : Bits, l.length = 1600 → l[i]? = some (l.getD i false) := fun l hl => by
      rw [List.getD_eq_getElem?_getD, List.getElem?_eq_getElem (by omega)]
      rfl
    rw [e _ (permB_length _), e _ (by rw [bitsB_length, kf_length])]
    congr 1
    obtain ⟨_, h2⟩ := stA_ok (lanesOf_ok a) (lanesOf_cub a ha) 24 (Nat.le_refl _)
    have h3 : (permB (bitsB a)).getD i false = rounds 24 (cubeIn (bitsB a)) (lin i) := by
      unfold permB
      rw [List.getD_eq_getElem?_getD, List.getElem?_map, List.getElem?_range hi]
      rfl
    rw [h3, ← h2 _ (lin_lt i hi)]
    obtain ⟨x, y, z, hx, hy, hz, rfl⟩ := bit_ix i hi
    rw [lin_at x y z hx hy hz, cub_at _ x y z hy hz]
    have h4 : 64 * (5 * y + x) + z = 8 * (8 * (5 * y + x) + z / 8) + z % 8 := by omega
    rw [h4, bitsB_getD _ _ _ (by rw [kf_length]; omega) (by omega), kf_bit a _ _ (by omega) (by omega)]
    rw [show (8 * (5 * y + x) + z / 8) / 8 = x + 5 * y by omega, show 8 * ((8 * (5 * y + x) + z / 8) % 8) + z % 8 = z by omega]
  · rw [List.getElem?_eq_none (by rw [permB_length]; omega), List.getElem?_eq_none (by rw [bitsB_length, kf_length]; omega)]
end Go.Sha
end
