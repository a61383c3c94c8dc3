/- iota of the reference. Rounds 0 to 23. -/
import Derived.Test.YthlknckmhjnkjaaRc
import Derived.Deep.RegionHeld3
import Derived.Deep.RegionLaw
namespace Go.Sha
/-- j steps of iota in a round -/
def iotaN (r : Nat) (c : Nat → Bool) : Nat → Nat → Bool
  | 0 => c
  | j + 1 => upd (iotaN r c j) (2 ^ j - 1) (iotaN r c j (2 ^ j - 1) != rcB (j + 7 * r))
def iotaC (r : Nat) (c : Nat → Bool) : Nat → Bool := iotaN r c 7
theorem shl_facts : ∀ j, j < 7 → Go.RowKit.wrap64 (Go.RowKit.wrap64 (2 ^ j) - 1) = ((2 ^ j - 1 : Nat) : Int) := by decide +kernel
theorem shl_lt : ∀ j, j < 7 → 2 ^ j - 1 < 64 := by decide
end Go.Sha
namespace Go.Proofs.Ythlknckmhjnkjaa
open Go.ChangeShapes Go.WideShapes Go.ChangeAt Go.RowKit Go.Sha
structure IoRel (w : World) (r : Nat) (c : Nat → Bool) (j : Nat) (wr : World) : Prop where
  cube : BoolsAt wr w.heap.size 68 1600 (iotaN r c j)
  zero : BoolsAt wr (w.heap.size + 1) 68 1600 (fun _ => false)
  fr : Fr [] w wr
theorem IoRel.start (w : World) (r : Nat) (c : Nat → Bool) : IoRel w r c 0 ((w.alloc (Obj.cells (bcells 1600 c) 68)).alloc (Obj.cells (bcells 1600 fun _ => false) 68)) := by
  refine ⟨(BoolsAt.new w _ _ c).alloc _, ?_, ((Fr.refl _ _).alloc _).alloc _⟩
  have := BoolsAt.new (w.alloc (Obj.cells (bcells 1600 c) 68)) 68 1600 fun _ => false
  simpa using this
theorem IoRel.keep {w : World} {r j : Nat} {c : Nat → Bool} {wr w' : World} (h : IoRel w r c j wr) (hf : Fr [] wr w') : IoRel w r c j w' := ⟨h.cube.keep hf (by simp), h.zero.keep hf (by simp), h.fr.trans hf⟩
theorem IoRel.step {w : World} {r j : Nat} {c : Nat → Bool} {wr : World} (h : IoRel w r c j wr) (v : Bool) (hv : v = (iotaN r c j (2 ^ j - 1) != rcB (j + 7 * r))) : IoRel w r c (j + 1) (wr.setCell ⟨w.heap.size, 2 ^ j - 1, none⟩ (.bool v)) := by
  subst hv
  exact ⟨h.cube.set _, h.zero.other (by omega) _, h.fr.setCell _ _ (.inl (by simp))⟩
theorem IoRel.drew {w : World} {r j : Nat} {c : Nat → Bool} {wr : World} (h : IoRel w r c j wr) : IoRel w r c j wr.drew := ⟨h.cube, h.zero, h.fr.drew⟩
theorem IoRel.held {w : World} {r j Z : Nat} {c : Nat → Bool} {v : Bool} {wr : World} (h : IoRel w r c j wr) (hZ : Z < 1600) (hv : iotaN r c j Z = v) : wr.cell? ⟨w.heap.size, Z, none⟩ = some (.bool v) ∧ wr.frozen? ⟨w.heap.size, Z, none⟩ = false ∧ IoRel w r c j wr :=
  ⟨by rw [h.cube.cell (i := Z) hZ, hv], h.cube.fz Z, h⟩
theorem IoRel.step' {w : World} {r j Z : Nat} {c : Nat → Bool} {v0 v1 : Bool} {wr : World} (h : IoRel w r c j wr) (hZ : Z = 2 ^ j - 1) (hv : iotaN r c j Z = v0) (hx : v1 = rcB (j + 7 * r)) : IoRel w r c (j + 1) (wr.setCell ⟨w.heap.size, Z, none⟩ (.bool (!(v0 == v1)))) := by
  subst hZ hv hx
  exact h.step _ rfl
attribute [local irreducible] wpStill
set_option maxRecDepth 100000 in
set_option maxHeartbeats 2000000 in
theorem iota_any (c : Nat → Bool) (r : Nat) (hr : r < 24) (w : World) : Calls Try.prog 66 #[aggB 1600 c, .int .i64 (r : Int)] w fun e w' => e = .returned (aggB 1600 (iotaC r c)) ∧ Fr [] w w' := by
  unfold aggB
  have H0 := Lib.hid (IoRel.start w r c)
  go_enter Try.func66, Try.ntmps66
  go_wp2_with (first | (with_reducible refine wpList_box_row rfl _ _ rfl _ rfl ?_) | (with_reducible refine wpList_alloc_row rfl _ rfl _ zero68 ?_))
  go_loopw [5] (fun x wr => InRel (IoRel w r c) 7 (fun X => X) x wr) (fun x _ => 7 - (intOf x).toNat)
  case atStart => exact InRel.mk 0 0 (by omega) rfl rfl H0.out
  case round =>
    clear H0
    obtain ⟨j, hj, rfl, hR⟩ := hrel
    by_cases hlt : j < 7
    · have hd : decide ((j : Int) ≤ 6) = true := by simp; omega
      go_wp2_with fail
      clear hd
      obtain ⟨Z, hZ⟩ : ∃ Z : Nat, Z = 2 ^ j - 1 := ⟨_, rfl⟩
      have hz : wrap64 (wrap64 (2 ^ j) - 1) = (Z : Int) := by rw [hZ]; exact shl_facts j hlt
      have hZ64 : Z < 64 := by rw [hZ]; exact (shl_lt j hlt)
      rw [hz]
      clear hz
      have b1 : (Z : Int) < 64 := by omega
      have q0 := hR.cube.cell (i := Z) (by omega)
      have q4 := hR.cube.fz Z
      generalize hv : iotaN r c j Z = v0 at q0
      have HV := Lib.hid hv
      have HZ := Lib.hid hZ
      clear hv hZ
      have hw1 : IntKind.i64.wrap (7 * (r : Int)) = 7 * (r : Int) := IntWalk.i64_in _ (by omega)
      have hw2 : IntKind.i64.wrap ((j : Int) + 7 * (r : Int)) = (j : Int) + 7 * (r : Int) := IntWalk.i64_in _ (by omega)
      have hw3 : ((j : Int) + 7 * (r : Int)) = ((j + 7 * r : Nat) : Int) := by omega
      have RC : ∀ u, Calls Try.prog 75 #[.int .i64 ((j : Int) + 7 * (r : Int))] u (RetB (rcB (j + 7 * r)) u) := fun u => by rw [hw3]; exact rc_any _ u (by omega)
      have HRC := Lib.hid RC
      clear RC hw3
      obtain ⟨v1, hv1⟩ : ∃ v1, v1 = rcB (j + 7 * r) := ⟨_, rfl⟩
      rw [← hv1] at HRC
      have HX := Lib.hid hv1
      clear hv1
      have R0 := hR.drew
      go_region_law ((go_simp; go_at_call 75; refine (HRC.out _).mono ?_; rintro e w3 ⟨rfl, f3⟩; have R3 := R0.keep f3; have q5 := (R3.held (by omega) HV.out).1; have q6 := (R3.held (by omega) HV.out).2.1))
      all_goals
        clear hw1 hw2
        go_wp2_with fail
        exact InRel.succ hlt rfl (R3.step' HZ.out HV.out HX.out)
    · obtain rfl : j = 7 := by omega
      obtain ⟨h1, h2, h4⟩ := hR
      have H3 : Hid (wr.heap[w.heap.size]? = some (.cells (bcells 1600 (iotaC r c)) 68 (0, 0))) := h1
      have H2 := Lib.hid h2
      clear h1 h2
      go_wp2_with (refine wpList_load_row rfl _ _ rfl _ rfl _ _ _ _ H3.out Try.underlying68 rfl (by rw [bcells_size]; exact size68) ?_; refine Hid.out ?_)
      show wpList _ _ _ _ _ _
      refine wpList_store_bits rfl _ _ _ rfl (w.heap.size + 1) rfl 68 (bcells 1600 (iotaC r c)) (bcells 1600 fun _ => false) rfl H2.out (by rw [bcells_size, bcells_size]) (bcells_one _ _) (by rw [bcells_size]; exact size68) ?_
      go_wp2_with fail
      have H4 : (wr.setRow (w.heap.size + 1) (bcells 1600 (iotaC r c))).heap[w.heap.size + 1]? = some (.cells (bcells 1600 (iotaC r c)) 68 (0, 0)) := setRow_heap _ _ _ _ _ _ H2.out
      refine bodyPost_ret (v := .agg (bcells 1600 (iotaC r c))) ?_ ?_ ?_
      · exact results_cell_row rfl _ _ (w.heap.size + 1) _ _ _ _ rfl H4 Try.underlying68 rfl (by rw [bcells_size]; exact size68)
      · rfl
      exact ⟨rfl, h4.setRow _ _ (.inl (by omega))⟩
end Go.Proofs.Ythlknckmhjnkjaa
