/- FnSumSHAKE128 and FnSumSHAKE256: the library's output is the reference's. Lengths whose bits a machine's addresses can tell apart. -/
import Derived.Test.YthlknckmhjnkjaaSpec
import Derived.Test.YthlknckmhjnkjaaSame
import Derived.Test.YthlknckmhjnkjaaBounded
namespace Go.Proofs.Ythlknckmhjnkjaa
open Go.ChangeShapes Go.WideShapes Go.ChangeAt Go.RowKit Go.Sha

set_option maxHeartbeats 1600000 in
theorem shk128_in (a0 : Option Addr) (n ca : Nat) (x : Bs) (L : Nat) (w : World) (hx : Sl w a0 n ca x) (hnx : n ≤ 1048576) (hL : L ≤ 65536) :
    Calls Try.prog 3 #[.slice a0 n ca, .int .i64 (L : Int)] w (RetB true w) := by
  go_enter Try.func3, Try.ntmps3
  have F0 := Fr.refl [] w
  go_wp2_with fail
  refine (bounded_t _ _ (by omega) (by omega)).mono ?_
  rintro e w' ⟨rfl, rfl⟩
  go_wp2_with fail
  refine (own_any _ _ _ x _ (hx.keep0 F0) (by omega)).mono ?_
  rintro e w11 ⟨a11, c11, rfl, o1, G1⟩
  have F11 := F0.trans G1
  have S1 := o1.sl
  clear o1 G1
  go_wp2_with fail
  refine (implSHAKE128_any _ _ _ _ x S1 (L) (by omega)).mono ?_
  clear S1
  rintro e w12 ⟨a12, c12, rfl, oA, G2⟩
  have F12 := F11.trans G2
  have SA := oA.sl_at (xof_length _ _ _ _ _)
  clear oA G2
  go_wp2_with fail
  refine (specSHAKE128_any _ _ _ x (L) _ (hx.keep0 F12) (by omega) (by omega)).mono ?_
  rintro e w13 ⟨a13, c13, rfl, oB, G3⟩
  have F13 := F12.trans G3
  replace SA := SA.keep0 G3
  have SB := oB.sl
  clear oB G3
  go_wp2_with fail
  refine (same_t _ _ _ _ _ _ _ _ _ SA SB rfl).mono ?_
  rintro e w14 ⟨rfl, G4⟩
  have F14 := F13.trans G4
  clear SA SB G4
  go_wp2_with fail
  refine (own_any _ _ _ x _ (hx.keep0 F14) (by omega)).mono ?_
  rintro e w21 ⟨a21, c21, rfl, o1, G1⟩
  have F21 := F14.trans G1
  have S1 := o1.sl
  clear o1 G1
  go_wp2_with fail
  rw [show (L : Int) + 1 = ((L + 1 : Nat) : Int) by omega]
  refine (implSHAKE128_any _ _ _ _ x S1 (L + 1) (by omega)).mono ?_
  clear S1
  rintro e w22 ⟨a22, c22, rfl, oA, G2⟩
  have F22 := F21.trans G2
  have SA := oA.sl_at (xof_length _ _ _ _ _)
  clear oA G2
  go_wp2_with fail
  rw [show (L : Int) + 1 = ((L + 1 : Nat) : Int) by omega]
  refine (specSHAKE128_any _ _ _ x (L + 1) _ (hx.keep0 F22) (by omega) (by omega)).mono ?_
  rintro e w23 ⟨a23, c23, rfl, oB, G3⟩
  have F23 := F22.trans G3
  replace SA := SA.keep0 G3
  have SB := oB.sl
  clear oB G3
  go_wp2_with fail
  refine (same_t _ _ _ _ _ _ _ _ _ SA SB rfl).mono ?_
  rintro e w24 ⟨rfl, G4⟩
  have F24 := F23.trans G4
  clear SA SB G4
  go_wp2_with fail
  go_ret
  exact ⟨rfl, F24⟩
theorem shk128_walk (a0 : Option Addr) (n ca : Nat) (x : Bs) (z : Int) (w : World) (hx : Sl w a0 n ca x) (hnx : n ≤ 1048576) :
    Calls Try.prog 3 #[.slice a0 n ca, .int .i64 z] w (RetB true w) := by
  by_cases h : 0 ≤ z ∧ z ≤ 65536
  · obtain ⟨L, rfl⟩ : ∃ L : Nat, z = L := ⟨z.toNat, by omega⟩
    exact shk128_in a0 n ca x L w hx hnx (by omega)
  · go_enter Try.func3, Try.ntmps3
    go_wp2_with fail
    refine (bounded_f _ _ (by omega)).mono ?_
    rintro e w' ⟨rfl, rfl⟩
    go_wp2_with fail
    go_ret
    exact ⟨rfl, Fr.refl _ _⟩

set_option maxHeartbeats 1600000 in
theorem shk256_in (a0 : Option Addr) (n ca : Nat) (x : Bs) (L : Nat) (w : World) (hx : Sl w a0 n ca x) (hnx : n ≤ 1048576) (hL : L ≤ 65536) :
    Calls Try.prog 4 #[.slice a0 n ca, .int .i64 (L : Int)] w (RetB true w) := by
  go_enter Try.func4, Try.ntmps4
  have F0 := Fr.refl [] w
  go_wp2_with fail
  refine (bounded_t _ _ (by omega) (by omega)).mono ?_
  rintro e w' ⟨rfl, rfl⟩
  go_wp2_with fail
  refine (own_any _ _ _ x _ (hx.keep0 F0) (by omega)).mono ?_
  rintro e w11 ⟨a11, c11, rfl, o1, G1⟩
  have F11 := F0.trans G1
  have S1 := o1.sl
  clear o1 G1
  go_wp2_with fail
  refine (implSHAKE256_any _ _ _ _ x S1 (L) (by omega)).mono ?_
  clear S1
  rintro e w12 ⟨a12, c12, rfl, oA, G2⟩
  have F12 := F11.trans G2
  have SA := oA.sl_at (xof_length _ _ _ _ _)
  clear oA G2
  go_wp2_with fail
  refine (specSHAKE256_any _ _ _ x (L) _ (hx.keep0 F12) (by omega) (by omega)).mono ?_
  rintro e w13 ⟨a13, c13, rfl, oB, G3⟩
  have F13 := F12.trans G3
  replace SA := SA.keep0 G3
  have SB := oB.sl
  clear oB G3
  go_wp2_with fail
  refine (same_t _ _ _ _ _ _ _ _ _ SA SB rfl).mono ?_
  rintro e w14 ⟨rfl, G4⟩
  have F14 := F13.trans G4
  clear SA SB G4
  go_wp2_with fail
  refine (own_any _ _ _ x _ (hx.keep0 F14) (by omega)).mono ?_
  rintro e w21 ⟨a21, c21, rfl, o1, G1⟩
  have F21 := F14.trans G1
  have S1 := o1.sl
  clear o1 G1
  go_wp2_with fail
  rw [show (L : Int) + 1 = ((L + 1 : Nat) : Int) by omega]
  refine (implSHAKE256_any _ _ _ _ x S1 (L + 1) (by omega)).mono ?_
  clear S1
  rintro e w22 ⟨a22, c22, rfl, oA, G2⟩
  have F22 := F21.trans G2
  have SA := oA.sl_at (xof_length _ _ _ _ _)
  clear oA G2
  go_wp2_with fail
  rw [show (L : Int) + 1 = ((L + 1 : Nat) : Int) by omega]
  refine (specSHAKE256_any _ _ _ x (L + 1) _ (hx.keep0 F22) (by omega) (by omega)).mono ?_
  rintro e w23 ⟨a23, c23, rfl, oB, G3⟩
  have F23 := F22.trans G3
  replace SA := SA.keep0 G3
  have SB := oB.sl
  clear oB G3
  go_wp2_with fail
  refine (same_t _ _ _ _ _ _ _ _ _ SA SB rfl).mono ?_
  rintro e w24 ⟨rfl, G4⟩
  have F24 := F23.trans G4
  clear SA SB G4
  go_wp2_with fail
  go_ret
  exact ⟨rfl, F24⟩
theorem shk256_walk (a0 : Option Addr) (n ca : Nat) (x : Bs) (z : Int) (w : World) (hx : Sl w a0 n ca x) (hnx : n ≤ 1048576) :
    Calls Try.prog 4 #[.slice a0 n ca, .int .i64 z] w (RetB true w) := by
  by_cases h : 0 ≤ z ∧ z ≤ 65536
  · obtain ⟨L, rfl⟩ : ∃ L : Nat, z = L := ⟨z.toNat, by omega⟩
    exact shk256_in a0 n ca x L w hx hnx (by omega)
  · go_enter Try.func4, Try.ntmps4
    go_wp2_with fail
    refine (bounded_f _ _ (by omega)).mono ?_
    rintro e w' ⟨rfl, rfl⟩
    go_wp2_with fail
    go_ret
    exact ⟨rfl, Fr.refl _ _⟩

end Go.Proofs.Ythlknckmhjnkjaa
