/- The model's row for the permutation of 200 bytes is, bit by bit, the reference's permutation of 1600 bits. Plain; no condition but the length. -/
import Derived.Test.YthlknckmhjnkjaaPermB
import Derived.Test.YthlknckmhjnkjaaBytesOf
import Derived.Test.YthlknckmhjnkjaaDg
namespace Go.Sha
open Go.Extern.Keccak

theorem bne_xor (a b : Bool) : (a != b) = (a ^^ b) := by cases a <;> cases b <;> rfl
theorem rotl_eq (x k : Nat) (hk0 : k ≠ 0) (hk : k < 64) : rotl x k = 2 ^ k * (x % 2 ^ (64 - k)) + x / 2 ^ (64 - k) := by
  unfold rotl
  rw [if_neg (by simpa using hk0)]
  congr 1
  have e : m64 = 2 ^ (64 - k) * 2 ^ k := by rw [← Nat.pow_add, show 64 - k + k = 64 by omega]; rfl
  rw [e, Nat.mul_mod_mul_right, Nat.mul_comm]
theorem top_lt (x k : Nat) (hx : x < 2 ^ 64) (hk : k < 64) : x / 2 ^ (64 - k) < 2 ^ k := by
  apply Nat.div_lt_of_lt_mul
  rw [← Nat.pow_add, show 64 - k + k = 64 by omega]
  exact hx
theorem rotl_bit (x k z : Nat) (hx : x < 2 ^ 64) (hk : k < 64) (hz : z < 64) : (rotl x k).testBit z = x.testBit ((z + 64 - k) % 64) := by
  by_cases hk0 : k = 0
  · subst hk0
    rw [show (z + 64 - 0) % 64 = z by omega]
    simp [rotl]
  · rw [rotl_eq x k hk0 hk, Nat.testBit_two_pow_mul_add _ (top_lt x k hx hk)]
    by_cases h : z < k
    · rw [if_pos h, Nat.testBit_div_two_pow, show (z + 64 - k) % 64 = z + (64 - k) by omega]
    · rw [if_neg h, Nat.testBit_mod_two_pow, show (z + 64 - k) % 64 = z - k by omega, decide_eq_true (by omega), Bool.true_and]
theorem rotl_lt (x k : Nat) (hx : x < 2 ^ 64) (hk : k < 64) : rotl x k < 2 ^ 64 := by
  by_cases hk0 : k = 0
  · subst hk0
    simpa [rotl] using hx
  · rw [rotl_eq x k hk0 hk]
    have h1 := top_lt x k hx hk
    have h2 : x % 2 ^ (64 - k) < 2 ^ (64 - k) := Nat.mod_lt _ (Nat.two_pow_pos _)
    have h3 : 2 ^ k * (x % 2 ^ (64 - k)) + 2 ^ k ≤ 2 ^ k * 2 ^ (64 - k) := by
      rw [← Nat.mul_succ]
      exact Nat.mul_le_mul_left _ h2
    rw [← Nat.pow_add, show k + (64 - k) = 64 by omega] at h3
    omega

/-- 25 lanes of 64 bits -/
structure Lanes (A : Array Nat) : Prop where
  size : A.size = 25
  lt : ∀ i, A.getD i 0 < 2 ^ 64
/-- the cube of lanes, laid flat -/
def cub (A : Array Nat) (i : Nat) : Bool := (A.getD (i / 320 + 5 * (i % 320 / 64)) 0).testBit (i % 64)
theorem cub_at (A : Array Nat) (x y z : Nat) (hy : y < 5) (hz : z < 64) : cub A (x * 320 + y * 64 + z) = (A.getD (x + 5 * y) 0).testBit z := by
  unfold cub
  rw [show (x * 320 + y * 64 + z) / 320 = x by omega, show (x * 320 + y * 64 + z) % 64 = z by omega, show (x * 320 + y * 64 + z) % 320 = y * 64 + z by omega, show (y * 64 + z) / 64 = y by omega]

def colA (a : Array Nat) (x : Nat) : Nat := (List.range 5).foldl (fun p y => p ^^^ a.getD (x % 5 + 5 * (y % 5)) 0) 0
def thA (a : Array Nat) : Array Nat :=
  let c := (Array.range 5).map fun x => colA a x
  let d := (Array.range 5).map fun x => c.getD ((x + 4) % 5) 0 ^^^ rotl (c.getD ((x + 1) % 5) 0) 1
  a.mapIdx fun i v => v ^^^ d.getD (i % 5) 0
def rpA (a : Array Nat) : Array Nat := (List.range 25).foldl (fun (b : Array Nat) i => b.setIfInBounds (i / 5 + 5 * ((2 * (i % 5) + 3 * (i / 5)) % 5)) (rotl (a.getD i 0) (rotations.getD i 0))) (Array.replicate 25 0)
def chA (b : Array Nat) : Array Nat := (Array.range 25).map fun i => b.getD ((i % 5) % 5 + 5 * ((i / 5) % 5)) 0 ^^^ ((m64 - 1 - b.getD ((i % 5 + 1) % 5 + 5 * ((i / 5) % 5)) 0) &&& b.getD ((i % 5 + 2) % 5 + 5 * ((i / 5) % 5)) 0)
def ioA (a : Array Nat) (rc : Nat) : Array Nat := a.setIfInBounds 0 (a.getD 0 0 ^^^ rc)
theorem round_eq (a : Array Nat) (rc : Nat) : round a rc = ioA (chA (rpA (thA a))) rc := rfl

theorem colA_eq (a : Array Nat) (x : Nat) : colA a x = ((((0 ^^^ a.getD (x % 5 + 5 * 0) 0) ^^^ a.getD (x % 5 + 5 * 1) 0) ^^^ a.getD (x % 5 + 5 * 2) 0) ^^^ a.getD (x % 5 + 5 * 3) 0) ^^^ a.getD (x % 5 + 5 * 4) 0 := rfl
theorem colA_lt {a : Array Nat} (h : Lanes a) (x : Nat) : colA a x < 2 ^ 64 := by
  rw [colA_eq]
  exact Nat.xor_lt_two_pow (Nat.xor_lt_two_pow (Nat.xor_lt_two_pow (Nat.xor_lt_two_pow (Nat.xor_lt_two_pow (by decide) (h.lt _)) (h.lt _)) (h.lt _)) (h.lt _)) (h.lt _)
theorem colA_bit (a : Array Nat) (x z : Nat) (hx : x < 5) (hz : z < 64) : (colA a x).testBit z = par (cub a) (x * 64 + z) 5 := by
  rw [colA_eq]
  simp only [par, Nat.testBit_xor, show (x * 64 + z) / 64 = x by omega, show (x * 64 + z) % 64 = z by omega, Nat.mod_eq_of_lt hx, cub_at a x _ z (show 0 < 5 by omega) hz, cub_at a x _ z (show 1 < 5 by omega) hz, cub_at a x _ z (show 2 < 5 by omega) hz, cub_at a x _ z (show 3 < 5 by omega) hz, cub_at a x _ z (show 4 < 5 by omega) hz, Nat.zero_testBit, bne_xor]
theorem getD_range_map (n : Nat) (f : Nat → Nat) (i : Nat) (h : i < n) : ((Array.range n).map f).getD i 0 = f i := by
  simp [Array.getD_eq_getD_getElem?, h]
theorem thA_at {a : Array Nat} (h : Lanes a) (x y : Nat) (hx : x < 5) (hy : y < 5) : (thA a).getD (x + 5 * y) 0 = a.getD (x + 5 * y) 0 ^^^ (colA a ((x + 4) % 5) ^^^ rotl (colA a ((x + 1) % 5)) 1) := by
  unfold thA
  simp only
  have hi : x + 5 * y < a.size := by rw [h.size]; omega
  have e : ∀ f : Nat → Nat → Nat, (a.mapIdx f).getD (x + 5 * y) 0 = f (x + 5 * y) (a.getD (x + 5 * y) 0) := fun f => by
    simp [Array.getD_eq_getD_getElem?, hi]
  rw [e, show (x + 5 * y) % 5 = x by omega, getD_range_map 5 _ x hx, getD_range_map 5 _ ((x + 4) % 5) (by omega), getD_range_map 5 _ ((x + 1) % 5) (by omega)]
theorem lane_ix (i : Nat) (h : i < 25) : ∃ x y, x < 5 ∧ y < 5 ∧ i = x + 5 * y := ⟨i % 5, i / 5, by omega, by omega, by omega⟩
theorem lanes_of {A : Array Nat} (hs : A.size = 25) (h : ∀ x y, x < 5 → y < 5 → A.getD (x + 5 * y) 0 < 2 ^ 64) : Lanes A := by
  refine ⟨hs, fun i => ?_⟩
  by_cases hi : i < 25
  · obtain ⟨x, y, hx, hy, rfl⟩ := lane_ix i hi
    exact h x y hx hy
  · rw [Array.getD_eq_getD_getElem?, Array.getElem?_eq_none (by omega)]
    decide
theorem thA_lanes {a : Array Nat} (h : Lanes a) : Lanes (thA a) := by
  refine lanes_of (by simp [thA, h.size]) fun x y hx hy => ?_
  rw [thA_at h x y hx hy]
  exact Nat.xor_lt_two_pow (h.lt _) (Nat.xor_lt_two_pow (colA_lt h _) (rotl_lt _ _ (colA_lt h _) (by decide)))
theorem thA_cub {a : Array Nat} (h : Lanes a) (i : Nat) (hi : i < 1600) : cub (thA a) i = thetaC (cub a) i := by
  obtain ⟨x, y, z, hx, hy, hz, rfl⟩ := cube_ix5 i hi
  rw [cub_at _ x y z hy hz, thA_at h x y hx hy, Nat.testBit_xor, Nat.testBit_xor, rotl_bit _ _ _ (colA_lt h _) (by decide) hz, colA_bit a _ _ (by omega) hz, colA_bit a _ _ (by omega) (by omega), ← cub_at a x y z hy hz]
  unfold thetaC
  rw [show (x * 320 + y * 64 + z) / 320 = x by omega, show (x * 320 + y * 64 + z) % 64 = z by omega, show (z + 64 - 1) % 64 = (z + 63) % 64 by omega, bne_xor, bne_xor]

theorem rhoO_lt (l : Nat) : rhoO l < 64 := by
  by_cases h : l < 25
  · have : ∀ l, l < 25 → rhoO l < 64 := by decide
    exact this l h
  · unfold rhoO
    rw [List.getD_eq_getElem?_getD, List.getElem?_eq_none (by simp; omega)]
    decide
theorem rp_lit (f : Nat → Nat → Nat) : (List.range 25).foldl (fun (b : Array Nat) i => b.setIfInBounds (i / 5 + 5 * ((2 * (i % 5) + 3 * (i / 5)) % 5)) (f i (rotations.getD i 0))) (Array.replicate 25 0) = #[f 0 0, f 6 44, f 12 43, f 18 21, f 24 14, f 3 28, f 9 20, f 10 3, f 16 45, f 22 61, f 1 1, f 7 6, f 13 25, f 19 8, f 20 18, f 4 27, f 5 36, f 11 10, f 17 15, f 23 56, f 2 62, f 8 55, f 14 39, f 15 41, f 21 2] := by kernel_rfl
theorem rpA_eq (a : Array Nat) : rpA a = #[rotl (a.getD 0 0) 0, rotl (a.getD 6 0) 44, rotl (a.getD 12 0) 43, rotl (a.getD 18 0) 21, rotl (a.getD 24 0) 14, rotl (a.getD 3 0) 28, rotl (a.getD 9 0) 20, rotl (a.getD 10 0) 3, rotl (a.getD 16 0) 45, rotl (a.getD 22 0) 61, rotl (a.getD 1 0) 1, rotl (a.getD 7 0) 6, rotl (a.getD 13 0) 25, rotl (a.getD 19 0) 8, rotl (a.getD 20 0) 18, rotl (a.getD 4 0) 27, rotl (a.getD 5 0) 36, rotl (a.getD 11 0) 10, rotl (a.getD 17 0) 15, rotl (a.getD 23 0) 56, rotl (a.getD 2 0) 62, rotl (a.getD 8 0) 55, rotl (a.getD 14 0) 39, rotl (a.getD 15 0) 41, rotl (a.getD 21 0) 2] := rp_lit fun i k => rotl (a.getD i 0) k
theorem rpA_at (a : Array Nat) : ∀ x, x < 5 → ∀ y, y < 5 → (rpA a).getD (x + 5 * y) 0 = rotl (a.getD ((x + 3 * y) % 5 + 5 * x) 0) (rhoO ((x + 3 * y) % 5 * 5 + x)) := by
  intro x hx y hy
  rw [rpA_eq]
  obtain rfl | rfl | rfl | rfl | rfl : x = 0 ∨ x = 1 ∨ x = 2 ∨ x = 3 ∨ x = 4 := by omega
  all_goals obtain rfl | rfl | rfl | rfl | rfl : y = 0 ∨ y = 1 ∨ y = 2 ∨ y = 3 ∨ y = 4 := by omega
  all_goals rfl
theorem rpA_lanes {a : Array Nat} (h : Lanes a) : Lanes (rpA a) := by
  refine lanes_of (by rw [rpA_eq]; rfl) fun x y hx hy => ?_
  rw [rpA_at a x hx y hy]
  exact rotl_lt _ _ (h.lt _) (rhoO_lt _)
theorem rpA_cub {a : Array Nat} (h : Lanes a) (i : Nat) (hi : i < 1600) : cub (rpA a) i = piC (rhoC (cub a)) i := by
  obtain ⟨x, y, z, hx, hy, hz, rfl⟩ := cube_ix5 i hi
  rw [cub_at _ x y z hy hz, rpA_at a x hx y hy, rotl_bit _ _ _ (h.lt _) (rhoO_lt _) hz, piC_at x y z hy hz]
  unfold rhoC
  rw [show ((x + 3 * y) % 5 * 320 + x * 64 + z) / 64 = (x + 3 * y) % 5 * 5 + x by omega, show ((x + 3 * y) % 5 * 320 + x * 64 + z) % 64 = z by omega, show ((x + 3 * y) % 5 * 5 + x) * 64 = (x + 3 * y) % 5 * 320 + x * 64 by omega, cub_at a _ x _ hx (Nat.mod_lt _ (by decide))]

theorem chA_at (b : Array Nat) (x y : Nat) (hx : x < 5) (hy : y < 5) : (chA b).getD (x + 5 * y) 0 = b.getD (x + 5 * y) 0 ^^^ ((m64 - 1 - b.getD ((x + 1) % 5 + 5 * y) 0) &&& b.getD ((x + 2) % 5 + 5 * y) 0) := by
  unfold chA
  rw [getD_range_map 25 _ _ (by omega), show (x + 5 * y) % 5 = x by omega, show (x + 5 * y) / 5 = y by omega, Nat.mod_eq_of_lt hx, Nat.mod_eq_of_lt hy]
theorem not_lt64 (v : Nat) : m64 - 1 - v < 2 ^ 64 := by unfold m64; omega
theorem not_bit (v z : Nat) (h : v < 2 ^ 64) (hz : z < 64) : (m64 - 1 - v).testBit z = !v.testBit z := by
  rw [show m64 - 1 - v = 2 ^ 64 - (v + 1) by unfold m64; omega, Nat.testBit_two_pow_sub_succ h]
  simp [hz]
theorem chA_lanes {b : Array Nat} (h : Lanes b) : Lanes (chA b) := by
  refine lanes_of (by simp [chA]) fun x y hx hy => ?_
  rw [chA_at b x y hx hy]
  exact Nat.xor_lt_two_pow (h.lt _) (Nat.and_lt_two_pow _ (h.lt _))
theorem chA_cub {b : Array Nat} (h : Lanes b) (i : Nat) (hi : i < 1600) : cub (chA b) i = chiC (cub b) i := by
  obtain ⟨x, y, z, hx, hy, hz, rfl⟩ := cube_ix5 i hi
  rw [cub_at _ x y z hy hz, chA_at b x y hx hy, Nat.testBit_xor, Nat.testBit_and, not_bit _ _ (h.lt _) hz]
  unfold chiC
  rw [show (x * 320 + y * 64 + z) / 320 = x by omega, show (x * 320 + y * 64 + z) % 320 = y * 64 + z by omega, ← Nat.add_assoc, ← Nat.add_assoc, cub_at b x y z hy hz, cub_at b _ y z hy hz, cub_at b _ y z hy hz, bne_xor]
end Go.Sha
