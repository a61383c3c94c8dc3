/- Contracts and lemmas, merged: Chi, Theta. Their conditions stand in each. -/
import Derived.Test.YtfgfhdkedmgfiaaGA
import Derived.Test.YtfgfhdkedmgfiaaGB
import Derived.LoopTactic
section
namespace Go.Sha
/-- chi on the cube, laid flat: the bit z of the lane x, y has the number 320 x + 64 y + z -/
def chiC (c : Nat → Bool) (i : Nat) : Bool := c i != (!c ((i / 320 + 1) % 5 * 320 + i % 320) && c ((i / 320 + 2) % 5 * 320 + i % 320))
end Go.Sha
namespace Go.Proofs.Ytfgfhdkedmgfiaa
open Go.ChangeShapes Go.WideShapes Go.ChangeAt Go.RowKit Go.Sha

/-- the argument in the first new block, the result in the second, what is made in the third: its first k bits are there -/
def CuRel (F : (Nat → Bool) → Nat → Bool) (w : World) (c : Nat → Bool) (k : Nat) (wr : World) : Prop :=
  BoolsAt wr w.heap.size 122 1600 c ∧ BoolsAt wr (w.heap.size + 1) 122 1600 (fun _ => false) ∧ BoolsAt wr (w.heap.size + 1 + 1) 122 1600 (fun i => if i < k then F c i else false) ∧ Fr [] w wr
theorem CuRel.cast {F : (Nat → Bool) → Nat → Bool} {w : World} {c : Nat → Bool} {k k' : Nat} {wr : World} (h : CuRel F w c k wr) (e : k = k') : CuRel F w c k' wr := e ▸ h
/-- one bit more -/
theorem CuRel.step {F : (Nat → Bool) → Nat → Bool} {w : World} {c : Nat → Bool} {k : Nat} {wr : World} (h : CuRel F w c k wr) (v : Bool) (hv : v = F c k) : CuRel F w c (k + 1) (wr.setCell ⟨w.heap.size + 1 + 1, k, none⟩ (.bool v)) := by
  obtain ⟨h1, h2, h3, h4⟩ := h
  refine ⟨h1.other (by omega) _, h2.other (by omega) _, (h3.set v).congr (fun i _ => ?_), h4.setCell _ _ (.inl (by simp; omega))⟩
  simp only [upd]
  by_cases e : i = k
  · subst e; rw [if_pos rfl, if_pos (by omega), hv]
  · rw [if_neg e]
    by_cases h5 : i < k
    · rw [if_pos h5, if_pos (by omega)]
    · rw [if_neg h5, if_neg (by omega)]
theorem CuRel.start (F : (Nat → Bool) → Nat → Bool) (w : World) (c : Nat → Bool) :
    CuRel F w c 0 (((w.alloc (Obj.cells (bcells 1600 c) 122)).alloc (Obj.cells (bcells 1600 fun _ => false) 122)).alloc (Obj.cells (bcells 1600 fun _ => false) 122)) := by
  refine ⟨((BoolsAt.new w _ _ c).alloc _).alloc _, ?_, ?_, (((Fr.refl _ _).alloc _).alloc _).alloc _⟩
  · have := (BoolsAt.new (w.alloc (Obj.cells (bcells 1600 c) 122)) 122 1600 fun _ => false).alloc (Obj.cells (bcells 1600 fun _ => false) 122)
    simpa using this
  · have := BoolsAt.new ((w.alloc (Obj.cells (bcells 1600 c) 122)).alloc (Obj.cells (bcells 1600 fun _ => false) 122)) 122 1600 fun _ => false
    simpa using this

attribute [local irreducible] wpStill
set_option maxRecDepth 100000 in
set_option maxHeartbeats 2000000 in
theorem chi_any (c : Nat → Bool) (w : World) : Calls Try.prog 108 #[aggB 1600 c] w fun e w' => e = .returned (aggB 1600 (chiC c)) ∧ Fr [] w w' := by
  unfold aggB
  have H0 := Lib.hid (CuRel.start chiC w c)
  go_enter Try.func108, Try.ntmps108
  go_wp2_with (first | (with_reducible refine wpList_box_row rfl _ _ rfl _ rfl ?_) | (with_reducible refine wpList_alloc_row rfl _ rfl _ zero68 ?_))
  go_loopw [4] (fun x wr => InRel (CuRel chiC w c) 5 (fun X => X * 320) x wr) (fun x _ => 5 - (intOf x).toNat)
  case atStart => exact InRel.mk 0 0 (by omega) rfl rfl H0.out
  case round =>
    clear H0
    obtain ⟨X, hX, rfl, hR⟩ := hrel
    by_cases hlt : X < 5
    · go_wp2
      go_loopw [5] (fun y wr => InRel (CuRel chiC w c) 5 (fun Y => X * 320 + Y * 64) y wr) (fun y _ => 5 - (intOf y).toNat)
      case atStart => exact InRel.mk 0 (X * 320) (by omega) rfl (by omega) hR
      case round =>
        clear hR
        obtain ⟨Y, hY, rfl, hR⟩ := hrel
        by_cases hlt2 : Y < 5
        · go_wp2
          go_loopw [6] (fun z wr => InRel (CuRel chiC w c) 64 (fun Z => X * 320 + Y * 64 + Z) z wr) (fun z _ => 64 - (intOf z).toNat)
          case atStart => exact InRel.mk 0 (X * 320 + Y * 64) (by omega) rfl (by omega) hR
          case round =>
            clear hR
            obtain ⟨Z, hZ, rfl, hR⟩ := hrel
            by_cases hlt3 : Z < 64
            · go_wp2
              refine wp_region_still_tail 35 (by kernel_rfl) (by kernel_rfl) ?_
              have R2 : CuRel chiC w c (X * 320 + Y * 64 + Z) wr.drew := ⟨hR.1, hR.2.1, hR.2.2.1, hR.2.2.2.drew⟩
              change wpStill Try.prog _ wr.drew (fun a' => wpList Try.prog _ _ _ a' wr.drew) _ _
              generalize wr.drew = w2 at R2 ⊢
              clear hR
              have b1 : (X : Int) < 5 := by omega
              have b2 : (Y : Int) < 5 := by omega
              have b3 : (Z : Int) < 64 := by omega
              obtain ⟨X1, hX1⟩ : ∃ X1, X1 = (X + 1) % 5 := ⟨_, rfl⟩
              obtain ⟨X2, hX2⟩ : ∃ X2, X2 = (X + 2) % 5 := ⟨_, rfl⟩
              have b4 : (X1 : Int) < 5 := by omega
              have b5 : (X2 : Int) < 5 := by omega
              have m1 : Hid (((X : Int) + 1) % 5 = (X1 : Int)) := by show _ = _; omega
              have m2 : Hid (((X : Int) + 2) % 5 = (X2 : Int)) := by show _ = _; omega
              have q0 := R2.1.cell (i := X * 320 + Y * 64 + Z) (by omega)
              have q1 := R2.1.cell (i := X1 * 320 + Y * 64 + Z) (by omega)
              have q2 := R2.1.cell (i := X2 * 320 + Y * 64 + Z) (by omega)
              have q3 := R2.2.2.1.cell (i := X * 320 + Y * 64 + Z) (by omega)
              have q4 := R2.2.2.1.fz (X * 320 + Y * 64 + Z)
              have hv : Hid (chiC c (X * 320 + Y * 64 + Z) = (c (X * 320 + Y * 64 + Z) != (!c (X1 * 320 + Y * 64 + Z) && c (X2 * 320 + Y * 64 + Z)))) := by
                show _ = _
                unfold chiC
                rw [show (X * 320 + Y * 64 + Z) / 320 = X by omega, show (X * 320 + Y * 64 + Z) % 320 = Y * 64 + Z by omega, ← hX1, ← hX2, Nat.add_assoc (X1 * 320), Nat.add_assoc (X2 * 320)]
              clear hX1 hX2
              generalize c (X * 320 + Y * 64 + Z) = v0 at q0 hv
              generalize c (X1 * 320 + Y * 64 + Z) = v1 at q1 hv
              generalize c (X2 * 320 + Y * 64 + Z) = v2 at q2 hv
              generalize (if X * 320 + Y * 64 + Z < X * 320 + Y * 64 + Z then chiC c (X * 320 + Y * 64 + Z) else false) = v3 at q3
              have hw1 : IntKind.i64.wrap ((X : Int) + 1) = (X : Int) + 1 := IntWalk.i64_in _ (by omega)
              have hw2 : IntKind.i64.wrap ((X : Int) + 2) = (X : Int) + 2 := IntWalk.i64_in _ (by omega)
              simp only [List.take_succ_cons, List.take_zero, List.drop_succ_cons, List.drop_zero]
              cases v1
              · repeat still_step
                still_call (mod_nat ((X : Int) + 1) 5 X1 w2 (by decide) (by decide) m1.out)
                repeat still_step
                still_call (mod_nat ((X : Int) + 2) 5 X2 w2 (by decide) (by decide) m2.out)
                repeat still_step
                refine wpStill_nil ?_
                clear hw1 hw2
                go_wp2_with fail
                exact InRel.succ hlt3 rfl (R2.step _ (by rw [hv.out]; rfl))
              · repeat still_step
                still_call (mod_nat ((X : Int) + 1) 5 X1 w2 (by decide) (by decide) m1.out)
                repeat still_step
                refine wpStill_nil ?_
                clear hw1 hw2
                go_wp2_with fail
                exact InRel.succ hlt3 rfl (R2.step _ (by rw [hv.out]; cases v0 <;> rfl))
            · go_wp2
              exact ⟨InRel.mk (Y + 1) (X * 320 + Y * 64 + Z) (by omega) (by simp) (by omega) hR, by simp [intOf]; omega⟩
        · go_wp2
          exact ⟨InRel.mk (X + 1) (X * 320 + Y * 64) (by omega) (by simp) (by omega) hR, by simp [intOf]; omega⟩
    · obtain rfl : X = 5 := by omega
      obtain ⟨h1, h2, h3, h4⟩ := hR
      have H3 : Hid (wr.heap[w.heap.size + 1 + 1]? = some (.cells (bcells 1600 (chiC c)) 122 (0, 0))) := h3.congr (fun i hi => by rw [if_pos (by omega)])
      have H2 := Lib.hid h2
      clear h1 h2 h3
      go_wp2_with (refine wpList_load_row rfl _ _ rfl _ rfl _ _ _ _ H3.out Try.underlying122 rfl (by rw [bcells_size]; exact size68) ?_; refine Hid.out ?_)
      show wpList _ _ _ _ _ _
      refine wpList_store_bits rfl _ _ _ rfl (w.heap.size + 1) rfl 122 (bcells 1600 (chiC c)) (bcells 1600 fun _ => false) rfl H2.out (by rw [bcells_size, bcells_size]) (bcells_one _ _) (by rw [bcells_size]; exact size68) ?_
      go_wp2_with fail
      have H4 : (wr.setRow (w.heap.size + 1) (bcells 1600 (chiC c))).heap[w.heap.size + 1]? = some (.cells (bcells 1600 (chiC c)) 122 (0, 0)) := setRow_heap _ _ _ _ _ _ H2.out
      refine bodyPost_ret (v := .agg (bcells 1600 (chiC c))) ?_ ?_ ?_
      · exact results_cell_row rfl _ _ (w.heap.size + 1) _ _ _ _ rfl H4 Try.underlying122 rfl (by rw [bcells_size]; exact size68)
      · rfl
      exact ⟨rfl, h4.setRow _ _ (.inl (by omega))⟩
end Go.Proofs.Ytfgfhdkedmgfiaa
end

section
namespace Go.Sha
/-- the parity of the first k bits of a column: the column z of the sheet x has the number 64 x + z -/
def par (c : Nat → Bool) (i : Nat) : Nat → Bool
  | 0 => false
  | k + 1 => par c i k != c (i / 64 * 320 + k * 64 + i % 64)
/-- theta on the cube, laid flat -/
def thetaC (c : Nat → Bool) (i : Nat) : Bool := c i != (par c ((i / 320 + 4) % 5 * 64 + i % 64) 5 != par c ((i / 320 + 1) % 5 * 64 + (i % 64 + 63) % 64) 5)
/-- the number of the step at which theta comes to a bit -/
def thPos (i : Nat) : Nat := (i / 320 * 64 + i % 64) * 5 + i % 320 / 64
theorem thPos_at (x y z : Nat) (hy : y < 5) (hz : z < 64) : thPos (x * 320 + y * 64 + z) = (x * 64 + z) * 5 + y := by
  unfold thPos
  rw [show (x * 320 + y * 64 + z) / 320 = x by omega, show (x * 320 + y * 64 + z) % 64 = z by omega, show (x * 320 + y * 64 + z) % 320 = y * 64 + z by omega, show (y * 64 + z) / 64 = y by omega]
theorem thPos_lt (i : Nat) (hi : i < 1600) : thPos i < 1600 := by
  unfold thPos
  omega
theorem cube_ix (j : Nat) : ∃ x y z, y < 5 ∧ z < 64 ∧ j = x * 320 + y * 64 + z := ⟨j / 320, j % 320 / 64, j % 64, by omega, by omega, by omega⟩
end Go.Sha
namespace Go.Proofs.Ytfgfhdkedmgfiaa
open Go.ChangeShapes Go.WideShapes Go.ChangeAt Go.RowKit Go.Sha
theorem zero66r : ((Try.prog.info? 120).bind (·.zero)).map (·.cells) = some (List.replicate 320 (Value.bool false)).toArray := by kernel_rfl
theorem zero66 : ((Try.prog.info? 120).bind (·.zero)).map (·.cells) = some (bcells 320 fun _ => false) := by rw [zero66r, bcells_false]
/-- the parities, m steps done -/
def PaRel (w : World) (c : Nat → Bool) (m : Nat) (wr : World) : Prop :=
  BoolsAt wr w.heap.size 122 1600 c ∧ BoolsAt wr (w.heap.size + 1) 122 1600 (fun _ => false) ∧ BoolsAt wr (w.heap.size + 1 + 1) 120 320 (fun i => par c i (min 5 (m - 5 * i))) ∧ Fr [] w wr
theorem PaRel.cast {w : World} {c : Nat → Bool} {k k' : Nat} {wr : World} (h : PaRel w c k wr) (e : k = k') : PaRel w c k' wr := e ▸ h
theorem PaRel.drew {w : World} {c : Nat → Bool} {k : Nat} {wr : World} (h : PaRel w c k wr) : PaRel w c k wr.drew := ⟨h.1, h.2.1, h.2.2.1, h.2.2.2.drew⟩
theorem PaRel.step {w : World} {c : Nat → Bool} {m : Nat} {wr : World} (h : PaRel w c m wr) (i Y : Nat) (hm : m = 5 * i + Y) (hY : Y < 5) (v : Bool) (hv : v = (par c i Y != c (i / 64 * 320 + Y * 64 + i % 64))) : PaRel w c (m + 1) (wr.setCell ⟨w.heap.size + 1 + 1, i, none⟩ (.bool v)) := by
  obtain ⟨h1, h2, h3, h4⟩ := h
  refine ⟨h1.other (by omega) _, h2.other (by omega) _, (h3.set v).congr (fun j _ => ?_), h4.setCell _ _ (.inl (by simp; omega))⟩
  simp only [upd]
  by_cases e : j = i
  · subst e
    rw [if_pos rfl, show min 5 (m + 1 - 5 * j) = Y + 1 by omega, hv]
    rfl
  · rw [if_neg e]
    by_cases h5 : j < i
    · rw [show min 5 (m - 5 * j) = 5 by omega, show min 5 (m + 1 - 5 * j) = 5 by omega]
    · rw [show min 5 (m - 5 * j) = 0 by omega, show min 5 (m + 1 - 5 * j) = 0 by omega]
theorem PaRel.cell {w : World} {c : Nat → Bool} {m : Nat} {wr : World} (h : PaRel w c m wr) (i Y : Nat) (hi : i < 320) (hm : m = 5 * i + Y) (hY : Y < 5) : wr.cell? ⟨w.heap.size + 1 + 1, i, none⟩ = some (.bool (par c i Y)) := by
  have := h.2.2.1.cell (i := i) hi
  rw [show min 5 (m - 5 * i) = Y by omega] at this
  exact this
theorem PaRel.start (w : World) (c : Nat → Bool) :
    PaRel w c 0 (((w.alloc (Obj.cells (bcells 1600 c) 122)).alloc (Obj.cells (bcells 1600 fun _ => false) 122)).alloc (Obj.cells (bcells 320 fun _ => false) 120)) := by
  refine ⟨((BoolsAt.new w _ _ c).alloc _).alloc _, ?_, ?_, (((Fr.refl _ _).alloc _).alloc _).alloc _⟩
  · have := (BoolsAt.new (w.alloc (Obj.cells (bcells 1600 c) 122)) 122 1600 fun _ => false).alloc (Obj.cells (bcells 320 fun _ => false) 120)
    simpa using this
  · have := BoolsAt.new ((w.alloc (Obj.cells (bcells 1600 c) 122)).alloc (Obj.cells (bcells 1600 fun _ => false) 122)) 120 320 fun _ => false
    have h2 : BoolsAt (((w.alloc (Obj.cells (bcells 1600 c) 122)).alloc (Obj.cells (bcells 1600 fun _ => false) 122)).alloc (Obj.cells (bcells 320 fun _ => false) 120)) (w.heap.size + 1 + 1) 120 320 (fun _ => false) := by simpa using this
    exact h2.congr (fun i _ => by rw [show min 5 (0 - 5 * i) = 0 by omega]; rfl)
/-- the cube, m steps done -/
def ThRel (w : World) (c : Nat → Bool) (m : Nat) (wr : World) : Prop :=
  BoolsAt wr w.heap.size 122 1600 (fun i => if thPos i < m then thetaC c i else c i) ∧ BoolsAt wr (w.heap.size + 1) 122 1600 (fun _ => false) ∧ BoolsAt wr (w.heap.size + 1 + 1) 120 320 (fun i => par c i 5) ∧ Fr [] w wr
theorem ThRel.cast {w : World} {c : Nat → Bool} {k k' : Nat} {wr : World} (h : ThRel w c k wr) (e : k = k') : ThRel w c k' wr := e ▸ h
theorem ThRel.drew {w : World} {c : Nat → Bool} {k : Nat} {wr : World} (h : ThRel w c k wr) : ThRel w c k wr.drew := ⟨h.1, h.2.1, h.2.2.1, h.2.2.2.drew⟩
theorem ThRel.start {w : World} {c : Nat → Bool} {wr : World} (h : PaRel w c 1600 wr) : ThRel w c 0 wr :=
  ⟨h.1.congr (fun i _ => by rw [if_neg (by omega)]), h.2.1, h.2.2.1.congr (fun i _ => by rw [show min 5 (1600 - 5 * i) = 5 by omega]), h.2.2.2⟩
theorem ThRel.cell {w : World} {c : Nat → Bool} {m : Nat} {wr : World} (h : ThRel w c m wr) (X Z Y : Nat) (_hX : X < 5) (hZ : Z < 64) (hY : Y < 5) (hm : m = (X * 64 + Z) * 5 + Y) : wr.cell? ⟨w.heap.size, X * 320 + Y * 64 + Z, none⟩ = some (.bool (c (X * 320 + Y * 64 + Z))) := by
  have := h.1.cell (i := X * 320 + Y * 64 + Z) (by omega)
  rw [this, if_neg (by rw [thPos_at X Y Z hY hZ]; omega)]
theorem ThRel.step {w : World} {c : Nat → Bool} {m : Nat} {wr : World} (h : ThRel w c m wr) (X Z Y : Nat) (_hX : X < 5) (hZ : Z < 64) (hY : Y < 5) (hm : m = (X * 64 + Z) * 5 + Y) (v : Bool) (hv : v = thetaC c (X * 320 + Y * 64 + Z)) : ThRel w c (m + 1) (wr.setCell ⟨w.heap.size, X * 320 + Y * 64 + Z, none⟩ (.bool v)) := by
  obtain ⟨h1, h2, h3, h4⟩ := h
  refine ⟨(h1.set v).congr (fun j hj => ?_), h2.other (by omega) _, h3.other (by omega) _, h4.setCell _ _ (.inl (by simp))⟩
  simp only [upd]
  by_cases e : j = X * 320 + Y * 64 + Z
  · rw [if_pos e, if_pos (by rw [e, thPos_at X Y Z hY hZ]; omega), hv, e]
  · rw [if_neg e]
    have e2 : thPos j ≠ m := by
      obtain ⟨x, y, z, h5, h6, rfl⟩ := cube_ix j
      rw [thPos_at x y z h5 h6]
      omega
    by_cases h5 : thPos j < m
    · rw [if_pos h5, if_pos (by omega)]
    · rw [if_neg h5, if_neg (by omega)]
attribute [local irreducible] wpStill
set_option maxRecDepth 100000 in
set_option maxHeartbeats 2000000 in
theorem theta_any (c : Nat → Bool) (w : World) : Calls Try.prog 111 #[aggB 1600 c] w fun e w' => e = .returned (aggB 1600 (thetaC c)) ∧ Fr [] w w' := by
  unfold aggB
  have H0 := Lib.hid (PaRel.start w c)
  go_enter Try.func111, Try.ntmps111
  go_wp2_with (first | (with_reducible refine wpList_box_row rfl _ _ rfl _ rfl ?_) | (with_reducible refine wpList_alloc_row rfl _ rfl _ zero68 ?_) | (with_reducible refine wpList_alloc_row rfl _ rfl _ zero66 ?_))
  go_loopw [4] (fun x wr => InRel (PaRel w c) 5 (fun X => X * 320) x wr) (fun x _ => 5 - (intOf x).toNat)
  case atStart => exact InRel.mk 0 0 (by omega) rfl rfl H0.out
  case round =>
    clear H0
    obtain ⟨X, hX, rfl, hR⟩ := hrel
    by_cases hlt : X < 5
    · go_wp2
      go_loopw [5] (fun y wr => InRel (PaRel w c) 64 (fun Z => (X * 64 + Z) * 5) y wr) (fun y _ => 64 - (intOf y).toNat)
      case atStart => exact InRel.mk 0 (X * 320) (by omega) rfl (by omega) hR
      case round =>
        clear hR
        obtain ⟨Z, hZ, rfl, hR⟩ := hrel
        by_cases hlt2 : Z < 64
        · go_wp2
          go_loopw [6] (fun z wr => InRel (PaRel w c) 5 (fun Y => (X * 64 + Z) * 5 + Y) z wr) (fun z _ => 5 - (intOf z).toNat)
          case atStart => exact InRel.mk 0 ((X * 64 + Z) * 5) (by omega) rfl (by omega) hR
          case round =>
            clear hR
            obtain ⟨Y, hY, rfl, hR⟩ := hrel
            by_cases hlt3 : Y < 5
            · go_wp2
              refine wp_region_still_tail 17 (by kernel_rfl) (by kernel_rfl) ?_
              have R2 : PaRel w c ((X * 64 + Z) * 5 + Y) wr.drew := hR.drew
              change wpStill Try.prog _ wr.drew (fun a' => wpList Try.prog _ _ _ a' wr.drew) _ _
              generalize wr.drew = w2 at R2 ⊢
              clear hR
              have b1 : (X : Int) < 5 := by omega
              have b2 : (Y : Int) < 5 := by omega
              have b3 : (Z : Int) < 64 := by omega
              have q0 := R2.1.cell (i := X * 320 + Y * 64 + Z) (by omega)
              have q3 := R2.cell (X * 64 + Z) Y (by omega) (by omega) (by omega)
              have q4 := R2.2.2.1.fz (X * 64 + Z)
              have hv : Hid ((par c (X * 64 + Z) Y != c (X * 320 + Y * 64 + Z)) = (par c (X * 64 + Z) Y != c ((X * 64 + Z) / 64 * 320 + Y * 64 + (X * 64 + Z) % 64))) := by
                show _ = _
                rw [show (X * 64 + Z) / 64 = X by omega, show (X * 64 + Z) % 64 = Z by omega]
              generalize hu0 : c (X * 320 + Y * 64 + Z) = v0 at q0
              generalize hu1 : par c (X * 64 + Z) Y = v1 at q3
              replace hu0 := Lib.hid hu0
              replace hu1 := Lib.hid hu1
              simp only [List.take_succ_cons, List.take_zero, List.drop_succ_cons, List.drop_zero]
              repeat still_step
              refine wpStill_nil ?_
              go_wp2_with fail
              exact InRel.succ hlt3 rfl (R2.step (X * 64 + Z) Y (by omega) (by omega) _ (by rw [← hv.out, hu0.out, hu1.out]; cases v0 <;> cases v1 <;> rfl))
            · go_wp2
              exact ⟨InRel.mk (Z + 1) ((X * 64 + Z) * 5 + Y) (by omega) (by simp) (by omega) hR, by simp [intOf]; omega⟩
        · go_wp2
          exact ⟨InRel.mk (X + 1) ((X * 64 + Z) * 5) (by omega) (by simp) (by omega) hR, by simp [intOf]; omega⟩
    · obtain rfl : X = 5 := by omega
      have H1 := Lib.hid (ThRel.start hR)
      clear hR
      go_wp2
      go_loopw [7] (fun x wr => InRel (ThRel w c) 5 (fun X => X * 320) x wr) (fun x _ => 5 - (intOf x).toNat)
      case atStart => exact InRel.mk 0 0 (by omega) rfl rfl H1.out
      case round =>
        clear H1
        obtain ⟨X, hX, rfl, hR⟩ := hrel
        by_cases hlt : X < 5
        · go_wp2
          go_loopw [8] (fun y wr => InRel (ThRel w c) 64 (fun Z => (X * 64 + Z) * 5) y wr) (fun y _ => 64 - (intOf y).toNat)
          case atStart => exact InRel.mk 0 (X * 320) (by omega) rfl (by omega) hR
          case round =>
            clear hR
            obtain ⟨Z, hZ, rfl, hR⟩ := hrel
            by_cases hlt2 : Z < 64
            · go_wp2
              refine wp_region_still_tail 17 (by kernel_rfl) (by kernel_rfl) ?_
              have R2 : ThRel w c ((X * 64 + Z) * 5) wr.drew := hR.drew
              clear hR
              change wpStill Try.prog _ wr.drew (fun a' => wpList Try.prog _ _ _ a' wr.drew) _ _
              generalize wr.drew = w2 at R2 ⊢
              have b1 : (X : Int) < 5 := by omega
              have b3 : (Z : Int) < 64 := by omega
              obtain ⟨X4, hX4⟩ : ∃ X4, X4 = (X + 4) % 5 := ⟨_, rfl⟩
              obtain ⟨X1, hX1⟩ : ∃ X1, X1 = (X + 1) % 5 := ⟨_, rfl⟩
              obtain ⟨Z1, hZ1⟩ : ∃ Z1, Z1 = (Z + 63) % 64 := ⟨_, rfl⟩
              have b4 : (X4 : Int) < 5 := by omega
              have b5 : (X1 : Int) < 5 := by omega
              have b6 : (Z1 : Int) < 64 := by omega
              have m1 : Hid (((X : Int) - 1) % 5 = (X4 : Int)) := by show _ = _; omega
              have m2 : Hid (((X : Int) + 1) % 5 = (X1 : Int)) := by show _ = _; omega
              have m3 : Hid (((Z : Int) - 1) % 64 = (Z1 : Int)) := by show _ = _; omega
              have q1 := R2.2.2.1.cell (i := X4 * 64 + Z) (by omega)
              have q2 := R2.2.2.1.cell (i := X1 * 64 + Z1) (by omega)
              have hv : Hid ((par c (X4 * 64 + Z) 5 != par c (X1 * 64 + Z1) 5) = (par c ((X + 4) % 5 * 64 + Z) 5 != par c ((X + 1) % 5 * 64 + (Z + 63) % 64) 5)) := by
                show _ = _
                rw [← hX4, ← hX1, ← hZ1]
              clear hX4 hX1 hZ1
              generalize par c (X4 * 64 + Z) 5 = v1 at q1 hv
              generalize par c (X1 * 64 + Z1) 5 = v2 at q2 hv
              have hw1 : IntKind.i64.wrap ((X : Int) - 1) = (X : Int) - 1 := IntWalk.i64_in _ (by omega)
              have hw2 : IntKind.i64.wrap ((X : Int) + 1) = (X : Int) + 1 := IntWalk.i64_in _ (by omega)
              have hw3 : IntKind.i64.wrap ((Z : Int) - 1) = (Z : Int) - 1 := IntWalk.i64_in _ (by omega)
              simp only [List.take_succ_cons, List.take_zero, List.drop_succ_cons, List.drop_zero]
              repeat still_step
              still_call (mod_nat ((X : Int) - 1) 5 X4 w2 (by decide) (by decide) m1.out)
              repeat still_step
              still_call (mod_nat ((X : Int) + 1) 5 X1 w2 (by decide) (by decide) m2.out)
              repeat still_step
              still_call (mod_nat ((Z : Int) - 1) 64 Z1 w2 (by decide) (by decide) m3.out)
              repeat still_step
              refine wpStill_nil ?_
              clear hw1 hw2 hw3
              obtain ⟨d, hd⟩ : ∃ d, d = (v1 != v2) := ⟨_, rfl⟩
              replace hv := Lib.hid (hd.trans hv.out)
              have hd2 : (!(v1 == v2)) = d := hd.symm
              clear hd
              go_wp2_with fail
              try simp only [hd2]
              clear hd2
              go_loopw [10] (fun z wr => InRel (ThRel w c) 5 (fun Y => (X * 64 + Z) * 5 + Y) z wr) (fun z _ => 5 - (intOf z).toNat)
              case atStart => exact InRel.mk 0 ((X * 64 + Z) * 5) (by omega) rfl (by omega) R2
              case round =>
                clear R2
                obtain ⟨Y, hY, rfl, hR⟩ := hrel
                by_cases hlt3 : Y < 5
                · go_wp2
                  refine wp_region_still_tail 15 (by kernel_rfl) (by kernel_rfl) ?_
                  have R2 : ThRel w c ((X * 64 + Z) * 5 + Y) wr.drew := hR.drew
                  change wpStill Try.prog _ wr.drew (fun a' => wpList Try.prog _ _ _ a' wr.drew) _ _
                  generalize wr.drew = w2 at R2 ⊢
                  clear hR
                  have b1 : (X : Int) < 5 := by omega
                  have b2 : (Y : Int) < 5 := by omega
                  have b3 : (Z : Int) < 64 := by omega
                  have q0 := R2.cell X Z Y (by omega) (by omega) (by omega) rfl
                  have q4 := R2.1.fz (X * 320 + Y * 64 + Z)
                  have hv2 : Hid (thetaC c (X * 320 + Y * 64 + Z) = (c (X * 320 + Y * 64 + Z) != d)) := by
                    show _ = _
                    unfold thetaC
                    rw [hv.out, show (X * 320 + Y * 64 + Z) / 320 = X by omega, show (X * 320 + Y * 64 + Z) % 64 = Z by omega]
                  clear hv
                  generalize c (X * 320 + Y * 64 + Z) = v0 at q0 hv2
                  simp only [List.take_succ_cons, List.take_zero, List.drop_succ_cons, List.drop_zero]
                  repeat still_step
                  refine wpStill_nil ?_
                  go_wp2_with fail
                  exact InRel.succ hlt3 rfl (R2.step X Z Y (by omega) (by omega) (by omega) rfl _ (by rw [hv2.out]; cases v0 <;> cases d <;> rfl))
                · go_wp2
                  exact ⟨InRel.mk (Z + 1) ((X * 64 + Z) * 5 + Y) (by omega) (by simp) (by omega) hR, by simp [intOf]; omega⟩
            · go_wp2
              exact ⟨InRel.mk (X + 1) ((X * 64 + Z) * 5) (by omega) (by simp) (by omega) hR, by simp [intOf]; omega⟩
        · obtain rfl : X = 5 := by omega
          obtain ⟨h1, h2, h3, h4⟩ := hR
          have H3 : Hid (wr.heap[w.heap.size]? = some (.cells (bcells 1600 (thetaC c)) 122 (0, 0))) := h1.congr (fun i hi => by rw [if_pos (thPos_lt i hi)])
          have H2 := Lib.hid h2
          clear h1 h2 h3
          go_wp2_with (refine wpList_load_row rfl _ _ rfl _ rfl _ _ _ _ H3.out Try.underlying122 rfl (by rw [bcells_size]; exact size68) ?_; refine Hid.out ?_)
          show wpList _ _ _ _ _ _
          refine wpList_store_bits rfl _ _ _ rfl (w.heap.size + 1) rfl 122 (bcells 1600 (thetaC c)) (bcells 1600 fun _ => false) rfl H2.out (by rw [bcells_size, bcells_size]) (bcells_one _ _) (by rw [bcells_size]; exact size68) ?_
          go_wp2_with fail
          have H4 : (wr.setRow (w.heap.size + 1) (bcells 1600 (thetaC c))).heap[w.heap.size + 1]? = some (.cells (bcells 1600 (thetaC c)) 122 (0, 0)) := setRow_heap _ _ _ _ _ _ H2.out
          refine bodyPost_ret (v := .agg (bcells 1600 (thetaC c))) ?_ ?_ ?_
          · exact results_cell_row rfl _ _ (w.heap.size + 1) _ _ _ _ rfl H4 Try.underlying122 rfl (by rw [bcells_size]; exact size68)
          · rfl
          exact ⟨rfl, h4.setRow _ _ (.inl (by omega))⟩
end Go.Proofs.Ytfgfhdkedmgfiaa
end
