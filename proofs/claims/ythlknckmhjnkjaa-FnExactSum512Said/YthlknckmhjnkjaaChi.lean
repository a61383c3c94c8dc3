/- chi of the reference, cell by cell. No condition. -/
import Derived.Test.YthlknckmhjnkjaaMod
import Derived.LoopTactic
namespace Go.Sha
/-- chi on the cube, laid flat: the bit z of the lane x, y has the number 320 x + 64 y + z -/
def chiC (c : Nat → Bool) (i : Nat) : Bool := c i != (!c ((i / 320 + 1) % 5 * 320 + i % 320) && c ((i / 320 + 2) % 5 * 320 + i % 320))
end Go.Sha
namespace Go.Proofs.Ythlknckmhjnkjaa
open Go.ChangeShapes Go.WideShapes Go.ChangeAt Go.RowKit Go.Sha

/-- the argument in the first new block, the result in the second, what is made in the third: its first k bits are there -/
def CuRel (F : (Nat → Bool) → Nat → Bool) (w : World) (c : Nat → Bool) (k : Nat) (wr : World) : Prop :=
  BoolsAt wr w.heap.size 68 1600 c ∧ BoolsAt wr (w.heap.size + 1) 68 1600 (fun _ => false) ∧ BoolsAt wr (w.heap.size + 1 + 1) 68 1600 (fun i => if i < k then F c i else false) ∧ Fr [] w wr
theorem CuRel.cast {F : (Nat → Bool) → Nat → Bool} {w : World} {c : Nat → Bool} {k k' : Nat} {wr : World} (h : CuRel F w c k wr) (e : k = k') : CuRel F w c k' wr := e ▸ h
/-- one bit more -/
theorem CuRel.step {F : (Nat → Bool) → Nat → Bool} {w : World} {c : Nat → Bool} {k : Nat} {wr : World} (h : CuRel F w c k wr) (v : Bool) (hv : v = F c k) : CuRel F w c (k + 1) (wr.setCell ⟨w.heap.size + 1 + 1, k, none⟩ (.bool v)) := by
  obtain ⟨h1, h2, h3, h4⟩ := h
  refine ⟨h1.other (by omega) _, h2.other (by omega) _, (h3.set v).congr (fun i _ => ?_), h4.setCell _ _ (.inl (by simp; omega))⟩
  simp only [upd]
  by_cases e : i = k
  · subst e; rw [if_pos rfl, if_pos (by omega), hv]
  · rw [if_neg e]
    by_cases h5 : i < k
    · rw [if_pos h5, if_pos (by omega)]
    · rw [if_neg h5, if_neg (by omega)]
theorem CuRel.start (F : (Nat → Bool) → Nat → Bool) (w : World) (c : Nat → Bool) :
    CuRel F w c 0 (((w.alloc (Obj.cells (bcells 1600 c) 68)).alloc (Obj.cells (bcells 1600 fun _ => false) 68)).alloc (Obj.cells (bcells 1600 fun _ => false) 68)) := by
  refine ⟨((BoolsAt.new w _ _ c).alloc _).alloc _, ?_, ?_, (((Fr.refl _ _).alloc _).alloc _).alloc _⟩
  · have := (BoolsAt.new (w.alloc (Obj.cells (bcells 1600 c) 68)) 68 1600 fun _ => false).alloc (Obj.cells (bcells 1600 fun _ => false) 68)
    simpa using this
  · have := BoolsAt.new ((w.alloc (Obj.cells (bcells 1600 c) 68)).alloc (Obj.cells (bcells 1600 fun _ => false) 68)) 68 1600 fun _ => false
    simpa using this

attribute [local irreducible] wpStill
set_option maxRecDepth 100000 in
set_option maxHeartbeats 2000000 in
theorem chi_any (c : Nat → Bool) (w : World) : Calls Try.prog 67 #[aggB 1600 c] w fun e w' => e = .returned (aggB 1600 (chiC c)) ∧ Fr [] w w' := by
  unfold aggB
  have H0 := Lib.hid (CuRel.start chiC w c)
  go_enter Try.func67, Try.ntmps67
  go_wp2_with (first | (with_reducible refine wpList_box_row rfl _ _ rfl _ rfl ?_) | (with_reducible refine wpList_alloc_row rfl _ rfl _ zero68 ?_))
  go_loopw [4] (fun x wr => InRel (CuRel chiC w c) 5 (fun X => X * 320) x wr) (fun x _ => 5 - (intOf x).toNat)
  case atStart => exact InRel.mk 0 0 (by omega) rfl rfl H0.out
  case round =>
    clear H0
    obtain ⟨X, hX, rfl, hR⟩ := hrel
    by_cases hlt : X < 5
    · go_wp2
      go_loopw [5] (fun y wr => InRel (CuRel chiC w c) 5 (fun Y => X * 320 + Y * 64) y wr) (fun y _ => 5 - (intOf y).toNat)
      case atStart => exact InRel.mk 0 (X * 320) (by omega) rfl (by omega) hR
      case round =>
        clear hR
        obtain ⟨Y, hY, rfl, hR⟩ := hrel
        by_cases hlt2 : Y < 5
        · go_wp2
          go_loopw [6] (fun z wr => InRel (CuRel chiC w c) 64 (fun Z => X * 320 + Y * 64 + Z) z wr) (fun z _ => 64 - (intOf z).toNat)
          case atStart => exact InRel.mk 0 (X * 320 + Y * 64) (by omega) rfl (by omega) hR
          case round =>
            clear hR
            obtain ⟨Z, hZ, rfl, hR⟩ := hrel
            by_cases hlt3 : Z < 64
            · go_wp2
              refine wp_region_still_tail 35 (by kernel_rfl) (by kernel_rfl) ?_
              have R2 : CuRel chiC w c (X * 320 + Y * 64 + Z) wr.drew := ⟨hR.1, hR.2.1, hR.2.2.1, hR.2.2.2.drew⟩
              change wpStill Try.prog _ wr.drew (fun a' => wpList Try.prog _ _ _ a' wr.drew) _ _
              generalize wr.drew = w2 at R2 ⊢
              clear hR
              have b1 : (X : Int) < 5 := by omega
              have b2 : (Y : Int) < 5 := by omega
              have b3 : (Z : Int) < 64 := by omega
              obtain ⟨X1, hX1⟩ : ∃ X1, X1 = (X + 1) % 5 := ⟨_, rfl⟩
              obtain ⟨X2, hX2⟩ : ∃ X2, X2 = (X + 2) % 5 := ⟨_, rfl⟩
              have b4 : (X1 : Int) < 5 := by omega
              have b5 : (X2 : Int) < 5 := by omega
              have m1 : Hid (((X : Int) + 1) % 5 = (X1 : Int)) := by show _ = _; omega
              have m2 : Hid (((X : Int) + 2) % 5 = (X2 : Int)) := by show _ = _; omega
              have q0 := R2.1.cell (i := X * 320 + Y * 64 + Z) (by omega)
              have q1 := R2.1.cell (i := X1 * 320 + Y * 64 + Z) (by omega)
              have q2 := R2.1.cell (i := X2 * 320 + Y * 64 + Z) (by omega)
              have q3 := R2.2.2.1.cell (i := X * 320 + Y * 64 + Z) (by omega)
              have q4 := R2.2.2.1.fz (X * 320 + Y * 64 + Z)
              have hv : Hid (chiC c (X * 320 + Y * 64 + Z) = (c (X * 320 + Y * 64 + Z) != (!c (X1 * 320 + Y * 64 + Z) && c (X2 * 320 + Y * 64 + Z)))) := by
                show _ = _
                unfold chiC
                rw [show (X * 320 + Y * 64 + Z) / 320 = X by omega, show (X * 320 + Y * 64 + Z) % 320 = Y * 64 + Z by omega, ← hX1, ← hX2, Nat.add_assoc (X1 * 320), Nat.add_assoc (X2 * 320)]
              clear hX1 hX2
              generalize c (X * 320 + Y * 64 + Z) = v0 at q0 hv
              generalize c (X1 * 320 + Y * 64 + Z) = v1 at q1 hv
              generalize c (X2 * 320 + Y * 64 + Z) = v2 at q2 hv
              generalize (if X * 320 + Y * 64 + Z < X * 320 + Y * 64 + Z then chiC c (X * 320 + Y * 64 + Z) else false) = v3 at q3
              have hw1 : IntKind.i64.wrap ((X : Int) + 1) = (X : Int) + 1 := IntWalk.i64_in _ (by omega)
              have hw2 : IntKind.i64.wrap ((X : Int) + 2) = (X : Int) + 2 := IntWalk.i64_in _ (by omega)
              simp only [List.take_succ_cons, List.take_zero, List.drop_succ_cons, List.drop_zero]
              cases v1
              · repeat still_step
                still_call (mod_nat ((X : Int) + 1) 5 X1 w2 (by decide) (by decide) m1.out)
                repeat still_step
                still_call (mod_nat ((X : Int) + 2) 5 X2 w2 (by decide) (by decide) m2.out)
                repeat still_step
                refine wpStill_nil ?_
                clear hw1 hw2
                go_wp2_with fail
                exact InRel.succ hlt3 rfl (R2.step _ (by rw [hv.out]; rfl))
              · repeat still_step
                still_call (mod_nat ((X : Int) + 1) 5 X1 w2 (by decide) (by decide) m1.out)
                repeat still_step
                refine wpStill_nil ?_
                clear hw1 hw2
                go_wp2_with fail
                exact InRel.succ hlt3 rfl (R2.step _ (by rw [hv.out]; cases v0 <;> rfl))
            · go_wp2
              exact ⟨InRel.mk (Y + 1) (X * 320 + Y * 64 + Z) (by omega) (by simp) (by omega) hR, by simp [intOf]; omega⟩
        · go_wp2
          exact ⟨InRel.mk (X + 1) (X * 320 + Y * 64) (by omega) (by simp) (by omega) hR, by simp [intOf]; omega⟩
    · obtain rfl : X = 5 := by omega
      obtain ⟨h1, h2, h3, h4⟩ := hR
      have H3 : Hid (wr.heap[w.heap.size + 1 + 1]? = some (.cells (bcells 1600 (chiC c)) 68 (0, 0))) := h3.congr (fun i hi => by rw [if_pos (by omega)])
      have H2 := Lib.hid h2
      clear h1 h2 h3
      go_wp2_with (refine wpList_load_row rfl _ _ rfl _ rfl _ _ _ _ H3.out Try.underlying68 rfl (by rw [bcells_size]; exact size68) ?_; refine Hid.out ?_)
      show wpList _ _ _ _ _ _
      refine wpList_store_bits rfl _ _ _ rfl (w.heap.size + 1) rfl 68 (bcells 1600 (chiC c)) (bcells 1600 fun _ => false) rfl H2.out (by rw [bcells_size, bcells_size]) (bcells_one _ _) (by rw [bcells_size]; exact size68) ?_
      go_wp2_with fail
      have H4 : (wr.setRow (w.heap.size + 1) (bcells 1600 (chiC c))).heap[w.heap.size + 1]? = some (.cells (bcells 1600 (chiC c)) 68 (0, 0)) := setRow_heap _ _ _ _ _ _ H2.out
      refine bodyPost_ret (v := .agg (bcells 1600 (chiC c))) ?_ ?_ ?_
      · exact results_cell_row rfl _ _ (w.heap.size + 1) _ _ _ _ rfl H4 Try.underlying68 rfl (by rw [bcells_size]; exact size68)
      · rfl
      exact ⟨rfl, h4.setRow _ _ (.inl (by omega))⟩
end Go.Proofs.Ythlknckmhjnkjaa
