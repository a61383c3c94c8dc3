/- permuted of the reference: the 24 rounds over 1600 bits. No condition. -/
import Derived.Test.YthlknckmhjnkjaaIota
import Derived.Test.YthlknckmhjnkjaaTheta
import Derived.Test.YthlknckmhjnkjaaRho
import Derived.Test.YthlknckmhjnkjaaPi
namespace Go.Sha
open Go.RowKit
/-- where the bit with the number i of the state lies in the cube -/
def lin (i : Nat) : Nat := i / 64 % 5 * 320 + i / 320 * 64 + i % 64
/-- which bit of the state lies at the place j of the cube -/
def nil5 (j : Nat) : Nat := 64 * (5 * (j % 320 / 64) + j / 320) + j % 64
def cubeIn (l : Bits) (j : Nat) : Bool := l.getD (nil5 j) false
def rounds : Nat → (Nat → Bool) → Nat → Bool
  | 0, c => c
  | k + 1, c => iotaC k (chiC (piC (rhoC (thetaC (rounds k c)))))
/-- the permutation on 1600 bits -/
def permB (l : Bits) : Bits := (List.range 1600).map fun i => rounds 24 (cubeIn l) (lin i)
theorem permB_length (l : Bits) : (permB l).length = 1600 := by simp [permB]
theorem lin_lt (i : Nat) (h : i < 1600) : lin i < 1600 := by unfold lin; omega
theorem nil5_at (x y z : Nat) (hx : x < 5) (hy : y < 5) (hz : z < 64) : nil5 (x * 320 + y * 64 + z) = 64 * (5 * y + x) + z := by
  unfold nil5
  rw [show (x * 320 + y * 64 + z) / 320 = x by omega, show (x * 320 + y * 64 + z) % 64 = z by omega, show (x * 320 + y * 64 + z) % 320 = y * 64 + z by omega, show (y * 64 + z) / 64 = y by omega]
theorem nil5_lt (j : Nat) (h : j < 1600) : nil5 j < 1600 := by unfold nil5; omega
theorem lin_at (x y z : Nat) (hx : x < 5) (hy : y < 5) (hz : z < 64) : lin (64 * (5 * y + x) + z) = x * 320 + y * 64 + z := by
  unfold lin
  rw [show (64 * (5 * y + x) + z) / 64 = 5 * y + x by omega, show (64 * (5 * y + x) + z) / 320 = y by omega, show (64 * (5 * y + x) + z) % 64 = z by omega, show (5 * y + x) % 5 = x by omega]
theorem bit_ix (i : Nat) (h : i < 1600) : ∃ x y z, x < 5 ∧ y < 5 ∧ z < 64 ∧ i = 64 * (5 * y + x) + z := ⟨i / 64 % 5, i / 320, i % 64, by omega, by omega, by omega, by omega⟩
theorem cube_ix5 (j : Nat) (h : j < 1600) : ∃ x y z, x < 5 ∧ y < 5 ∧ z < 64 ∧ j = x * 320 + y * 64 + z := ⟨j / 320, j % 320 / 64, j % 64, by omega, by omega, by omega, by omega⟩
theorem nil5_inj {i j : Nat} (h : nil5 j = i) (hj : j < 1600) : j = lin i := by
  subst h
  obtain ⟨x, y, z, hx, hy, hz, rfl⟩ := cube_ix5 j hj
  rw [nil5_at x y z hx hy hz, lin_at x y z hx hy hz]
theorem nil5_lin (i : Nat) (h : i < 1600) : nil5 (lin i) = i := by
  obtain ⟨x, y, z, hx, hy, hz, rfl⟩ := bit_ix i h
  rw [lin_at x y z hx hy hz, nil5_at x y z hx hy hz]
theorem bcells_list (N : Nat) (c : Nat → Bool) : (bcells N c).toList = ((List.range N).map c).map Value.bool := by
  apply List.ext_getElem?
  intro i
  rw [Array.getElem?_toList]
  by_cases h : i < N
  · rw [bcells_get _ _ _ h]
    simp [h]
  · rw [Array.getElem?_eq_none (by rw [bcells_size]; omega)]
    rw [List.getElem?_eq_none (by simp; omega)]
theorem OwB.of_bools {w : World} {g e N base : Nat} {c : Nat → Bool} (h : BoolsAt w g e N c) (hb : base ≤ g) (hm : N ≤ maxLen) : OwB w base e (some ⟨g, 0, none⟩) N ((List.range N).map c) := by
  refine ⟨by simp, .inr ⟨g, N, bcells N c, by simp, hb, h, by simp, hm, by simp [bcells_size], ?_⟩⟩
  rw [bcells_list, List.take_of_length_le (by simp)]
theorem made_bools (n : Nat) : madeCells #[.bool false] n = bcells n fun _ => false := by
  rw [← bcells_false]
  apply Array.ext'
  rw [toList_madeCells_one]
end Go.Sha
namespace Go.Proofs.Ythlknckmhjnkjaa
open Go.ChangeShapes Go.WideShapes Go.ChangeAt Go.RowKit Go.Sha
theorem make_bools (n : Nat) (z : Int) (hz : z = n) (hn : n ≤ 140737488355328) : ∀ u : World, (Instr.makeSlice 42 (.int .i64 z) (.int .i64 z)).run Try.prog u =
    .ok (.slice (some ⟨u.heap.size, 0, none⟩) n n) (u.alloc (.cells (bcells n fun _ => false) 4)) := fun u => by
  subst hz
  obtain ⟨i0, hi, hz0, hz1, hz2⟩ := info_parts info4
  have h := run_make (P := Try.prog) u 42 4 i0 (.bool false) Try.underlying42 hi hz0 .i64 .i64 (n : Int) (n : Int) (by omega) (Int.le_refl _) (by rw [hz2]; omega) (by omega)
  have e : ((n : Int)).toNat = n := by omega
  rw [e] at h
  rw [← made_bools]
  simpa [hz1, Value.cells] using h

/-- the first k bits of the state laid into the cube -/
structure InRl (w : World) (a : Option Addr) (n c : Nat) (l : Bits) (k : Nat) (wr : World) : Prop where
  cube : BoolsAt wr w.heap.size 68 1600 (fun j => if nil5 j < k then cubeIn l j else false)
  sl : SlB wr a n c l
  fr : Fr [] w wr
theorem InRl.drew {w : World} {a : Option Addr} {n c : Nat} {l : Bits} {k : Nat} {wr : World} (h : InRl w a n c l k wr) : InRl w a n c l k wr.drew := ⟨h.cube, h.sl.keep0 (Fr.refl _ _).drew, h.fr.drew⟩
theorem InRl.step {w : World} {a : Option Addr} {n c : Nat} {l : Bits} {k : Nat} {wr : World} (h : InRl w a n c l k wr) (hs : ∀ x, a = some x → n ≠ 0 → x.block < w.heap.size) (hk : k < 1600) (X Y Z : Nat) (hX : X < 5) (hY : Y < 5) (hZ : Z < 64) (e : k = 64 * (5 * Y + X) + Z) (v : Bool) (hv : v = l.getD k false) :
    InRl w a n c l (k + 1) (wr.setCell ⟨w.heap.size, X * 320 + Y * 64 + Z, none⟩ (.bool v)) := by
  have hl : X * 320 + Y * 64 + Z = lin k := by rw [e, lin_at X Y Z hX hY hZ]
  have hn : nil5 (lin k) = k := nil5_lin k hk
  refine ⟨(h.cube.set v).congr (fun j hj => ?_), h.sl.keep (S := [w.heap.size]) ((Fr.refl _ _).setCell _ _ (.inr (by simp))) (fun x hx h0 => ?_), h.fr.setCell _ _ (.inl (by simp))⟩
  · simp only [upd]
    rw [hl]
    by_cases e2 : j = lin k
    · subst e2
      rw [if_pos rfl, if_pos (by omega), hv]
      unfold cubeIn
      rw [hn]
    · rw [if_neg e2]
      have : nil5 j ≠ k := fun e3 => e2 (nil5_inj e3 hj)
      by_cases h3 : nil5 j < k
      · rw [if_pos h3, if_pos (by omega)]
      · rw [if_neg h3, if_neg (by omega)]
  · have := hs x hx h0
    simp
    omega
structure CubeRl (w : World) (l : Bits) (k : Nat) (wr : World) : Prop where
  cube : BoolsAt wr w.heap.size 68 1600 (rounds k (cubeIn l))
  fr : Fr [] w wr
structure OutRl (w : World) (l : Bits) (g k : Nat) (wr : World) : Prop where
  cube : BoolsAt wr w.heap.size 68 1600 (rounds 24 (cubeIn l))
  out : BoolsAt wr g 4 1600 (fun i => if i < k then rounds 24 (cubeIn l) (lin i) else false)
  fr : Fr [] w wr
theorem OutRl.step {w : World} {l : Bits} {g k : Nat} {wr : World} (h : OutRl w l g k wr) (hg : w.heap.size ≤ g) (hne : w.heap.size < g) (v : Bool) (hv : v = rounds 24 (cubeIn l) (lin k)) : OutRl w l g (k + 1) (wr.setCell ⟨g, k, none⟩ (.bool v)) := by
  refine ⟨h.cube.other (by omega) _, (h.out.set v).congr (fun i _ => ?_), h.fr.setCell _ _ (.inl hg)⟩
  simp only [upd]
  by_cases e : i = k
  · subst e; rw [if_pos rfl, if_pos (by omega), hv]
  · rw [if_neg e]
    by_cases h5 : i < k
    · rw [if_pos h5, if_pos (by omega)]
    · rw [if_neg h5, if_neg (by omega)]
theorem SlB.at' {w : World} {a : Option Addr} {n c : Nat} {l : Bits} (h : SlB w a n c l) (k : Nat) (hk : k < n) : ∃ b o, a = some ⟨b, o, none⟩ ∧ ∀ i, i < n → w.cell? ⟨b, o + i, none⟩ = some (.bool (l.getD i false)) := by
  rcases h.cel with h0 | h0
  · omega
  · exact h0
attribute [local irreducible] wpStill
set_option maxRecDepth 100000 in
set_option maxHeartbeats 2000000 in
theorem permuted_any (a : Option Addr) (c : Nat) (l : Bits) (w : World) (hS : SlB w a 1600 c l) : Calls Try.prog 59 #[.slice a 1600 c] w fun e w' => ∃ g, e = .returned (.slice (some ⟨g, 0, none⟩) 1600 1600) ∧ w.heap.size ≤ g ∧ OwB w' w.heap.size 4 (some ⟨g, 0, none⟩) 1600 (permB l) ∧ Fr [] w w' := by
  obtain ⟨b, o, rfl, hcel⟩ := SlB.at' hS 0 (by omega)
  have hbl := hS.lt rfl (by omega)
  simp only at hbl
  have R0 : InRl w (some ⟨b, o, none⟩) 1600 c l 0 (w.alloc (.cells (bcells 1600 fun _ => false) 68)) :=
    ⟨(BoolsAt.new w _ _ _).congr (fun j _ => by rw [if_neg (by omega)]), hS.keep0 ((Fr.refl _ _).alloc _), (Fr.refl _ _).alloc _⟩
  have hmax := hS.max
  unfold maxLen at hmax
  have hcap := hS.cap
  clear hS
  have HC := Lib.hid hcel
  clear hcel
  go_enter Try.func59, Try.ntmps59
  go_wp2_with (first | (with_reducible refine wpList_alloc_row rfl _ rfl _ zero68 ?_))
  generalize w.alloc (.cells (bcells 1600 fun _ => false) 68) = w0 at R0 ⊢
  go_loopw [10] (fun x wr => InRel (InRl w (some ⟨b, o, none⟩) 1600 c l) 1600 (fun X => X) x wr) (fun x _ => 1600 - (intOf x).toNat)
  case atStart => exact InRel.mk 0 0 (by omega) rfl rfl R0
  case round =>
    clear R0 w0
    obtain ⟨k, hk, rfl, hR⟩ := hrel
    by_cases hlt : k < 1600
    · go_wp2_with fail
      refine wp_region_still_tail 14 (by kernel_rfl) (by kernel_rfl) ?_
      change wpStill Try.prog _ wr.drew (fun a' => wpList Try.prog _ _ _ a' wr.drew) _ _
      have R1 := hR.drew
      clear hR
      generalize wr.drew = w1 at R1 ⊢
      obtain ⟨A, hA⟩ : ∃ A, A = k / 64 := ⟨_, rfl⟩
      obtain ⟨X, hX⟩ : ∃ X, X = A % 5 := ⟨_, rfl⟩
      obtain ⟨Y, hY⟩ : ∃ Y, Y = k / 320 := ⟨_, rfl⟩
      obtain ⟨Z, hZ⟩ : ∃ Z, Z = k % 64 := ⟨_, rfl⟩
      have d1 : Int.tdiv (k : Int) 64 = (A : Int) := by rw [Int.tdiv_eq_ediv_of_nonneg (by omega)]; omega
      have d2 : Int.tmod (A : Int) 5 = (X : Int) := by rw [Int.tmod_eq_emod_of_nonneg (by omega)]; omega
      have d3 : Int.tdiv (k : Int) 320 = (Y : Int) := by rw [Int.tdiv_eq_ediv_of_nonneg (by omega)]; omega
      have d4 : Int.tmod (k : Int) 64 = (Z : Int) := by rw [Int.tmod_eq_emod_of_nonneg (by omega)]; omega
      have e1 : IntKind.i64.wrap (A : Int) = (A : Int) := IntWalk.i64_in _ (by omega)
      have e2 : IntKind.i64.wrap (X : Int) = (X : Int) := IntWalk.i64_in _ (by omega)
      have e3 : IntKind.i64.wrap (Y : Int) = (Y : Int) := IntWalk.i64_in _ (by omega)
      have e4 : IntKind.i64.wrap (Z : Int) = (Z : Int) := IntWalk.i64_in _ (by omega)
      have b0 : (k : Int) < 1600 := by omega
      have b1 : (X : Int) < 5 := by omega
      have b2 : (Y : Int) < 5 := by omega
      have b3 : (Z : Int) < 64 := by omega
      have hkk : Hid (k = 64 * (5 * Y + X) + Z) := by show _ = _; omega
      clear hA hX hY hZ
      obtain ⟨b', o', hbo, hc1⟩ := SlB.at' R1.sl k hlt
      simp only [Option.some.injEq, Addr.mk.injEq] at hbo
      obtain ⟨rfl, rfl, _⟩ := hbo
      have q0 := hc1 k hlt
      have HC1 := Lib.hid hc1
      clear hc1
      have q3 := R1.cube.cell (i := X * 320 + Y * 64 + Z) (by omega)
      have q4 := R1.cube.fz (X * 320 + Y * 64 + Z)
      generalize hv : l.getD k false = v0 at q0
      have HV := Lib.hid hv
      clear hv
      generalize (if nil5 (X * 320 + Y * 64 + Z) < k then cubeIn l (X * 320 + Y * 64 + Z) else false) = v3 at q3
      simp only [List.take_succ_cons, List.take_zero, List.drop_succ_cons, List.drop_zero]
      repeat still_step
      refine wpStill_nil ?_
      clear d1 d2 d3 d4 e1 e2 e3 e4
      go_wp2_with fail
      exact InRel.succ hlt rfl (R1.step (fun x hx _ => by simp at hx; subst hx; exact hbl) hlt X Y Z (by omega) (by omega) (by omega) hkk.out _ HV.out.symm)
    · obtain rfl : k = 1600 := by omega
      rw [show ((1600 : Nat) : Int) = 1600 from rfl]
      have B1 : BoolsAt wr w.heap.size 68 1600 (rounds 0 (cubeIn l)) := hR.cube.congr (fun j hj => by rw [if_pos (nil5_lt j hj)]; rfl)
      have F1 := hR.fr
      clear hR
      go_wp2_with fail
      go_loopw [5] (fun x wr => InRel (CubeRl w l) 24 (fun X => X) x wr) (fun x _ => 24 - (intOf x).toNat)
      case atStart => exact InRel.mk 0 0 (by omega) rfl rfl ⟨B1, F1⟩
      case round =>
        clear B1 F1
        obtain ⟨k, hk, rfl, hR⟩ := hrel
        obtain ⟨B1, F1⟩ := hR
        by_cases hlt : k < 24
        · have HB := Lib.hid B1
          clear B1
          go_wp2_with (refine wpList_load_row rfl _ _ rfl _ rfl _ _ _ _ HB.out Try.underlying68 rfl (by rw [bcells_size]; exact size68) ?_; refine Hid.out ?_)
          show wpList _ _ _ _ _ _
          go_wp2_with fail
          refine (theta_any _ _).mono ?_
          rintro e w1 ⟨rfl, f1⟩
          go_wp2_with fail
          refine (rho_any _ _).mono ?_
          rintro e w2 ⟨rfl, f2⟩
          go_wp2_with fail
          refine (pi_any _ _).mono ?_
          rintro e w3 ⟨rfl, f3⟩
          go_wp2_with fail
          refine (chi_any _ _).mono ?_
          rintro e w4 ⟨rfl, f4⟩
          go_wp2_with fail
          refine (iota_any _ k hlt _).mono ?_
          rintro e w5 ⟨rfl, f5⟩
          have F5 := (((f1.trans f2).trans f3).trans f4).trans f5
          have B5 := Lib.hid (BoolsAt.keep HB.out F5 (by simp))
          have G5 := F1.trans F5
          clear f1 f2 f3 f4 f5 F5 HB F1
          go_wp2_with (refine wpList_store_bits rfl _ _ _ rfl w.heap.size rfl 68 (bcells 1600 (rounds (k + 1) (cubeIn l))) (bcells 1600 (rounds k (cubeIn l))) rfl B5.out (by rw [bcells_size, bcells_size]) (bcells_one _ _) (by rw [bcells_size]; exact size68) ?_; refine Hid.out ?_)
          show wpList _ _ _ _ _ _
          have B6 := BoolsAt.setRow B5.out (rounds (k + 1) (cubeIn l))
          have G6 : Fr [] w (w5.setRow w.heap.size (bcells 1600 (rounds (k + 1) (cubeIn l)))) := G5.setRow _ _ (.inl (by omega))
          clear B5 G5
          generalize w5.setRow w.heap.size (bcells 1600 (rounds (k + 1) (cubeIn l))) = w6 at B6 G6 ⊢
          have H6 := Lib.hid B6
          clear B6
          go_wp2_with fail
          exact InRel.succ (R := CubeRl w l) (f := fun X => X) hlt rfl ⟨H6.out, G6⟩
        · obtain rfl : k = 24 := by omega
          rw [show ((24 : Nat) : Int) = 24 from rfl]
          have HB := Lib.hid B1
          clear B1
          have hmk := make_bools 1600 1600 rfl (by omega)
          go_wp2_with fail
          clear hmk
          have f1 : Fr [] wr (wr.alloc (.cells (bcells 1600 fun _ => false) 4)) := (Fr.refl _ _).alloc _
          have O1 : OutRl w l wr.heap.size 0 (wr.alloc (.cells (bcells 1600 fun _ => false) 4)) := ⟨HB.out.keep f1 (by simp), (BoolsAt.new wr _ _ _).congr (fun j _ => by rw [if_neg (by omega)]), F1.trans f1⟩
          have hlt2 := HB.out.lt
          clear f1 HB
          obtain ⟨g, hg⟩ : ∃ g, g = wr.heap.size := ⟨_, rfl⟩
          rw [← hg] at O1 hlt2 ⊢
          have hgw : w.heap.size ≤ g := by rw [hg]; exact F1.size
          clear F1 hg
          generalize wr.alloc (.cells (bcells 1600 fun _ => false) 4) = w1 at O1 ⊢
          go_loopw [42] (fun x wr => InRel (OutRl w l g) 1600 (fun X => X) x wr) (fun x _ => 1600 - (intOf x).toNat)
          case atStart => exact InRel.mk 0 0 (by omega) rfl rfl O1
          case round =>
            clear O1 w1
            obtain ⟨k, hk, rfl, hR⟩ := hrel
            by_cases hlt : k < 1600
            · have q0 := hR.cube.cell (i := k / 64 % 5 * 320 + k / 320 * 64 + k % 64) (by omega)
              have q1 := hR.out.cell (i := k) hlt
              have q2 := hR.out.fz k
              generalize hv : rounds 24 (cubeIn l) (k / 64 % 5 * 320 + k / 320 * 64 + k % 64) = v0 at q0
              have HV := Lib.hid hv
              clear hv
              generalize (if k < k then rounds 24 (cubeIn l) (lin k) else false) = v1 at q1
              go_wp2_with fail
              exact InRel.succ (R := OutRl w l g) (f := fun X => X) hlt rfl (hR.step hgw hlt2 v0 HV.out.symm)
            · obtain rfl : k = 1600 := by omega
              go_wp2_with fail
              go_ret
              refine ⟨g, rfl, hgw, ?_, hR.fr⟩
              have h1 := OwB.of_bools (base := w.heap.size) (hR.out.congr (c' := fun i => rounds 24 (cubeIn l) (lin i)) (fun i hi => by rw [if_pos hi])) hgw (by simp [maxLen])
              exact h1
end Go.Proofs.Ythlknckmhjnkjaa
