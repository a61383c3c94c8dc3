/- FnXofPrefix: a shorter output is the beginning of a longer one. No condition but the form's own reach on the bytes. -/
import Derived.Test.YthlknckmhjnkjaaSumS
import Derived.Test.YthlknckmhjnkjaaSame
import Derived.Lib.MinMax
namespace Go.Sha
theorem xof_take (rate out : Nat) (ds : UInt8) (data : Bs) (j k : Nat) (h : j ≤ k) : (xof rate out ds data k).take j = xof rate out ds data j := by
  obtain ⟨i, rfl⟩ : ∃ i, k = j + i := ⟨k - j, by omega⟩
  unfold xof
  rw [squeeze_add, List.take_left' (squeeze_length _ _)]
end Go.Sha
namespace Go.Proofs.Ythlknckmhjnkjaa
open Go.ChangeShapes Go.WideShapes Go.ChangeAt Go.RowKit Go.Sha

theorem bounded_t (n : Int) (w : World) (h0 : 0 ≤ n) (h1 : n ≤ 65536) : Calls Try.prog 10 #[.int .i64 n] w fun e w' => e = .returned (.bool true) ∧ w = w' := by
  go_enter Try.func10, Try.ntmps10
  go_wp2
  go_ret
  exact ⟨by simp, rfl⟩
theorem bounded_f (n : Int) (w : World) (h : n < 0 ∨ 65536 < n) : Calls Try.prog 10 #[.int .i64 n] w fun e w' => e = .returned (.bool false) ∧ w = w' := by
  rcases h with h | h
  · have h0 : decide (0 ≤ n) = false := by simp; omega
    go_enter Try.func10, Try.ntmps10
    go_wp2
    go_ret
    exact ⟨by simp, rfl⟩
  · have h0 : decide (0 ≤ n) = true := by simp; omega
    go_enter Try.func10, Try.ntmps10
    go_wp2
    go_ret
    exact ⟨by simp; omega, rfl⟩
theorem same_t (a0 b0 : Option Addr) (n m ca cb : Nat) (x y : Bs) (w : World) (hx : Sl w a0 n ca x) (hy : Sl w b0 m cb y) (h : x = y) :
    Calls Try.prog 11 #[.slice a0 n ca, .slice b0 m cb] w (RetB true w) := by
  have := same_any a0 b0 n m ca cb x y w hx hy
  rwa [show (x == y) = true by simpa using h] at this

set_option maxHeartbeats 1600000 in
theorem prefix_lt (a0 : Option Addr) (n ca : Nat) (x : Bs) (lo hi : Nat) (w : World) (hx : Sl w a0 n ca x) (hnx : n ≤ 140737488351232) (hlh : lo ≤ hi) (hh : hi ≤ 65536) :
    Calls Try.prog 9 #[.slice a0 n ca, .int .i64 (lo : Int), .int .i64 (hi : Int)] w (RetB true w) := by
  have m1 : min (lo : Int) (hi : Int) = (lo : Int) := by omega
  have m2 : max (lo : Int) (hi : Int) = (hi : Int) := by omega
  go_enter Try.func9, Try.ntmps9
  have F0 := Fr.refl [] w
  go_wp2_with fail
  refine (bounded_t _ _ (by omega) (by omega)).mono ?_
  rintro e w' ⟨rfl, rfl⟩
  go_wp2_with fail
  refine (bounded_t _ _ (by omega) (by omega)).mono ?_
  rintro e w' ⟨rfl, rfl⟩
  go_wp2_with fail
  refine (own_any _ _ _ x _ (hx.keep0 F0) (by omega)).mono ?_
  rintro e w1 ⟨a1, c1, rfl, o1, G1⟩
  have F1 := F0.trans G1
  have S1 := o1.sl
  clear o1
  go_wp2_with fail
  refine (implSHAKE128_any _ _ _ _ x S1 lo (by omega)).mono ?_
  clear S1
  rintro e w2 ⟨aA, cA, rfl, oA, G2⟩
  have F2 := F1.trans G2
  have SA := oA.sl
  clear oA
  rw [xof_length] at SA
  go_wp2_with fail
  refine (own_any _ _ _ x _ (hx.keep0 F2) (by omega)).mono ?_
  rintro e w3 ⟨a2, c2, rfl, o2, G3⟩
  have F3 := F2.trans G3
  replace SA := SA.keep0 G3
  have S2 := o2.sl
  clear o2
  go_wp2_with fail
  refine (implSHAKE128_any _ _ _ _ x S2 hi (by omega)).mono ?_
  clear S2
  rintro e w4 ⟨aB, cB, rfl, oB, G4⟩
  have F4 := F3.trans G4
  replace SA := SA.keep0 G4
  have SB := oB.sl
  clear oB
  rw [xof_length] at SB
  go_wp2_with fail
  refine (own_any _ _ _ x _ (hx.keep0 F4) (by omega)).mono ?_
  rintro e w5 ⟨a3, c3, rfl, o3, G5⟩
  have F5 := F4.trans G5
  replace SA := SA.keep0 G5
  replace SB := SB.keep0 G5
  have S3 := o3.sl
  clear o3
  go_wp2_with fail
  refine (implSHAKE256_any _ _ _ _ x S3 lo (by omega)).mono ?_
  clear S3
  rintro e w6 ⟨aC, cC, rfl, oC, G6⟩
  have F6 := F5.trans G6
  replace SA := SA.keep0 G6
  replace SB := SB.keep0 G6
  have SC := oC.sl
  clear oC
  rw [xof_length] at SC
  go_wp2_with fail
  refine (own_any _ _ _ x _ (hx.keep0 F6) (by omega)).mono ?_
  rintro e w7 ⟨a4, c4, rfl, o4, G7⟩
  have F7 := F6.trans G7
  replace SA := SA.keep0 G7
  replace SB := SB.keep0 G7
  replace SC := SC.keep0 G7
  have S4 := o4.sl
  clear o4
  go_wp2_with fail
  rw [show (hi : Int) + 1 = ((hi + 1 : Nat) : Int) by omega]
  refine (implSHAKE256_any _ _ _ _ x S4 (hi + 1) (by omega)).mono ?_
  clear S4
  rintro e w8 ⟨aD, cD, rfl, oD, G8⟩
  have F8 := F7.trans G8
  replace SA := SA.keep0 G8
  replace SB := SB.keep0 G8
  replace SC := SC.keep0 G8
  have SD := oD.sl
  clear oD
  rw [xof_length] at SD
  have hcB : lo ≤ cB := Nat.le_trans hlh SB.cap
  have hcD : lo ≤ cD := Nat.le_trans (by omega) SD.cap
  have SB2 := SB.take lo hlh
  have SD2 := SD.take lo (by omega)
  have e1 : ((lo : Int) == (lo : Int)) = true := by simp
  have e2 : ((hi : Int) == (hi : Int)) = true := by simp
  have e3 : ((hi : Int) + 1 == (hi : Int) + 1) = true := by simp
  go_wp2_with fail
  refine (same_t _ _ _ _ _ _ _ _ _ SA SB2 (xof_take _ _ _ _ _ _ hlh).symm).mono ?_
  rintro e w9 ⟨rfl, G9⟩
  have F9 := F8.trans G9
  replace SC := SC.keep0 G9
  replace SD2 := SD2.keep0 G9
  go_wp2_with fail
  refine (same_t _ _ _ _ _ _ _ _ _ SC SD2 (xof_take _ _ _ _ _ _ (by omega)).symm).mono ?_
  rintro e w10 ⟨rfl, G10⟩
  have F10 := F9.trans G10
  go_wp2_with fail
  go_ret
  exact ⟨rfl, F10⟩

set_option maxHeartbeats 1600000 in
theorem prefix_gt (a0 : Option Addr) (n ca : Nat) (x : Bs) (lo hi : Nat) (w : World) (hx : Sl w a0 n ca x) (hnx : n ≤ 140737488351232) (hlh : lo ≤ hi) (hh : hi ≤ 65536) :
    Calls Try.prog 9 #[.slice a0 n ca, .int .i64 (hi : Int), .int .i64 (lo : Int)] w (RetB true w) := by
  have m1 : min (hi : Int) (lo : Int) = (lo : Int) := by omega
  have m2 : max (hi : Int) (lo : Int) = (hi : Int) := by omega
  go_enter Try.func9, Try.ntmps9
  have F0 := Fr.refl [] w
  go_wp2_with fail
  refine (bounded_t _ _ (by omega) (by omega)).mono ?_
  rintro e w' ⟨rfl, rfl⟩
  go_wp2_with fail
  refine (bounded_t _ _ (by omega) (by omega)).mono ?_
  rintro e w' ⟨rfl, rfl⟩
  go_wp2_with fail
  refine (own_any _ _ _ x _ (hx.keep0 F0) (by omega)).mono ?_
  rintro e w1 ⟨a1, c1, rfl, o1, G1⟩
  have F1 := F0.trans G1
  have S1 := o1.sl
  clear o1
  go_wp2_with fail
  refine (implSHAKE128_any _ _ _ _ x S1 lo (by omega)).mono ?_
  clear S1
  rintro e w2 ⟨aA, cA, rfl, oA, G2⟩
  have F2 := F1.trans G2
  have SA := oA.sl
  clear oA
  rw [xof_length] at SA
  go_wp2_with fail
  refine (own_any _ _ _ x _ (hx.keep0 F2) (by omega)).mono ?_
  rintro e w3 ⟨a2, c2, rfl, o2, G3⟩
  have F3 := F2.trans G3
  replace SA := SA.keep0 G3
  have S2 := o2.sl
  clear o2
  go_wp2_with fail
  refine (implSHAKE128_any _ _ _ _ x S2 hi (by omega)).mono ?_
  clear S2
  rintro e w4 ⟨aB, cB, rfl, oB, G4⟩
  have F4 := F3.trans G4
  replace SA := SA.keep0 G4
  have SB := oB.sl
  clear oB
  rw [xof_length] at SB
  go_wp2_with fail
  refine (own_any _ _ _ x _ (hx.keep0 F4) (by omega)).mono ?_
  rintro e w5 ⟨a3, c3, rfl, o3, G5⟩
  have F5 := F4.trans G5
  replace SA := SA.keep0 G5
  replace SB := SB.keep0 G5
  have S3 := o3.sl
  clear o3
  go_wp2_with fail
  refine (implSHAKE256_any _ _ _ _ x S3 lo (by omega)).mono ?_
  clear S3
  rintro e w6 ⟨aC, cC, rfl, oC, G6⟩
  have F6 := F5.trans G6
  replace SA := SA.keep0 G6
  replace SB := SB.keep0 G6
  have SC := oC.sl
  clear oC
  rw [xof_length] at SC
  go_wp2_with fail
  refine (own_any _ _ _ x _ (hx.keep0 F6) (by omega)).mono ?_
  rintro e w7 ⟨a4, c4, rfl, o4, G7⟩
  have F7 := F6.trans G7
  replace SA := SA.keep0 G7
  replace SB := SB.keep0 G7
  replace SC := SC.keep0 G7
  have S4 := o4.sl
  clear o4
  go_wp2_with fail
  rw [show (hi : Int) + 1 = ((hi + 1 : Nat) : Int) by omega]
  refine (implSHAKE256_any _ _ _ _ x S4 (hi + 1) (by omega)).mono ?_
  clear S4
  rintro e w8 ⟨aD, cD, rfl, oD, G8⟩
  have F8 := F7.trans G8
  replace SA := SA.keep0 G8
  replace SB := SB.keep0 G8
  replace SC := SC.keep0 G8
  have SD := oD.sl
  clear oD
  rw [xof_length] at SD
  have hcB : lo ≤ cB := Nat.le_trans hlh SB.cap
  have hcD : lo ≤ cD := Nat.le_trans (by omega) SD.cap
  have SB2 := SB.take lo hlh
  have SD2 := SD.take lo (by omega)
  have e1 : ((lo : Int) == (lo : Int)) = true := by simp
  have e2 : ((hi : Int) == (hi : Int)) = true := by simp
  have e3 : ((hi : Int) + 1 == (hi : Int) + 1) = true := by simp
  go_wp2_with fail
  refine (same_t _ _ _ _ _ _ _ _ _ SA SB2 (xof_take _ _ _ _ _ _ hlh).symm).mono ?_
  rintro e w9 ⟨rfl, G9⟩
  have F9 := F8.trans G9
  replace SC := SC.keep0 G9
  replace SD2 := SD2.keep0 G9
  go_wp2_with fail
  refine (same_t _ _ _ _ _ _ _ _ _ SC SD2 (xof_take _ _ _ _ _ _ (by omega)).symm).mono ?_
  rintro e w10 ⟨rfl, G10⟩
  have F10 := F9.trans G10
  go_wp2_with fail
  go_ret
  exact ⟨rfl, F10⟩

theorem prefix_out (a0 : Option Addr) (n ca : Nat) (x y : Int) (w : World) (h : min x y < 0 ∨ 65536 < min x y) :
    Calls Try.prog 9 #[.slice a0 n ca, .int .i64 x, .int .i64 y] w (RetB true w) := by
  have H := Lib.hid h
  clear h
  go_enter Try.func9, Try.ntmps9
  go_wp2_with fail
  refine (bounded_f _ _ H.out).mono ?_
  rintro e w' ⟨rfl, rfl⟩
  go_wp2_with fail
  go_ret
  exact ⟨rfl, Fr.refl _ _⟩
theorem prefix_out2 (a0 : Option Addr) (n ca : Nat) (x y : Int) (w : World) (h : 0 ≤ min x y) (h2 : min x y ≤ 65536) (h3 : 65536 < max x y) :
    Calls Try.prog 9 #[.slice a0 n ca, .int .i64 x, .int .i64 y] w (RetB true w) := by
  go_enter Try.func9, Try.ntmps9
  go_wp2_with fail
  refine (bounded_t _ _ h h2).mono ?_
  rintro e w' ⟨rfl, rfl⟩
  go_wp2_with fail
  refine (bounded_f _ _ (.inr h3)).mono ?_
  rintro e w' ⟨rfl, rfl⟩
  go_wp2_with fail
  go_ret
  exact ⟨rfl, Fr.refl _ _⟩
theorem prefix_walk (a0 : Option Addr) (n ca : Nat) (l : Bs) (x y : Int) (w : World) (hx : Sl w a0 n ca l) (hnx : n ≤ 140737488351232) :
    Calls Try.prog 9 #[.slice a0 n ca, .int .i64 x, .int .i64 y] w (RetB true w) := by
  by_cases h1 : min x y < 0 ∨ 65536 < min x y
  · exact prefix_out a0 n ca x y w h1
  · by_cases h2 : 65536 < max x y
    · exact prefix_out2 a0 n ca x y w (by omega) (by omega) h2
    · obtain ⟨X, rfl⟩ := Int.eq_ofNat_of_zero_le (show 0 ≤ x by omega)
      obtain ⟨Y, rfl⟩ := Int.eq_ofNat_of_zero_le (show 0 ≤ y by omega)
      by_cases h3 : X ≤ Y
      · exact prefix_lt a0 n ca l X Y w hx hnx h3 (by omega)
      · exact prefix_gt a0 n ca l Y X w hx hnx (by omega) (by omega)
end Go.Proofs.Ythlknckmhjnkjaa
