/- The 24 rounds over lanes are those over bits; bytes and lanes. Plain; no condition but the length. -/
import Derived.Test.YthlknckmhjnkjaaKec
namespace Go.Sha
open Go.Extern.Keccak

def Agree (c c' : Nat → Bool) : Prop := ∀ i, i < 1600 → c i = c' i
theorem par_congr {c c' : Nat → Bool} (h : Agree c c') (i : Nat) (hi : i < 320) : ∀ k, k ≤ 5 → par c i k = par c' i k
  | 0, _ => rfl
  | k + 1, hk => by
    simp only [par]
    rw [par_congr h i hi k (by omega), h _ (by omega)]
theorem thetaC_congr {c c' : Nat → Bool} (h : Agree c c') : Agree (thetaC c) (thetaC c') := fun i hi => by
  unfold thetaC
  rw [h i hi, par_congr h _ (by omega) 5 (by omega), par_congr h _ (by omega) 5 (by omega)]
theorem rhoC_congr {c c' : Nat → Bool} (h : Agree c c') : Agree (rhoC c) (rhoC c') := fun i hi => by
  unfold rhoC
  rw [h _ (by omega)]
theorem piC_congr {c c' : Nat → Bool} (h : Agree c c') : Agree (piC c) (piC c') := fun i hi => by
  unfold piC
  rw [h _ (by omega)]
theorem chiC_congr {c c' : Nat → Bool} (h : Agree c c') : Agree (chiC c) (chiC c') := fun i hi => by
  unfold chiC
  rw [h i hi, h _ (by omega), h _ (by omega)]
/-- the bits that iota adds -/
def iob (r i : Nat) : Bool :=
  if i = 0 then rcB (0 + 7 * r) else if i = 1 then rcB (1 + 7 * r) else if i = 3 then rcB (2 + 7 * r) else if i = 7 then rcB (3 + 7 * r)
  else if i = 15 then rcB (4 + 7 * r) else if i = 31 then rcB (5 + 7 * r) else if i = 63 then rcB (6 + 7 * r) else false
theorem iotaC_eq (r : Nat) (c : Nat → Bool) (i : Nat) : iotaC r c i = (c i != iob r i) := by
  unfold iotaC iob
  simp only [iotaN, upd, show 2 ^ 0 - 1 = 0 from rfl, show 2 ^ 1 - 1 = 1 from rfl, show 2 ^ 2 - 1 = 3 from rfl, show 2 ^ 3 - 1 = 7 from rfl, show 2 ^ 4 - 1 = 15 from rfl, show 2 ^ 5 - 1 = 31 from rfl, show 2 ^ 6 - 1 = 63 from rfl]
  by_cases h0 : i = 0
  · subst h0; simp
  by_cases h1 : i = 1
  · subst h1; simp
  by_cases h2 : i = 3
  · subst h2; simp
  by_cases h3 : i = 7
  · subst h3; simp
  by_cases h4 : i = 15
  · subst h4; simp
  by_cases h5 : i = 31
  · subst h5; simp
  by_cases h6 : i = 63
  · subst h6; simp
  simp [h0, h1, h2, h3, h4, h5, h6]
theorem iotaC_congr (r : Nat) {c c' : Nat → Bool} (h : Agree c c') : Agree (iotaC r c) (iotaC r c') := fun i hi => by
  rw [iotaC_eq, iotaC_eq, h i hi]
def RC (r : Nat) : Nat := roundConstants.getD r 0
theorem RC_bits : ∀ r, r < 24 → ∀ z, z < 64 → (RC r).testBit z = iob r z := by decide +kernel
theorem RC_lt : ∀ r, r < 24 → RC r < 2 ^ 64 := by decide +kernel
theorem iob_far (r i : Nat) (h : 64 ≤ i) : iob r i = false := by
  unfold iob
  rw [if_neg (by omega), if_neg (by omega), if_neg (by omega), if_neg (by omega), if_neg (by omega), if_neg (by omega), if_neg (by omega)]
theorem ioA_at {a : Array Nat} (h : Lanes a) (rc i : Nat) : (ioA a rc).getD i 0 = if i = 0 then a.getD 0 0 ^^^ rc else a.getD i 0 := by
  unfold ioA
  have hs := h.size
  simp only [Array.getD_eq_getD_getElem?]
  by_cases h0 : i = 0
  · subst h0
    rw [if_pos rfl, Array.getElem?_setIfInBounds_self_of_lt (by omega)]
    simp
  · rw [if_neg h0, Array.getElem?_setIfInBounds_ne (fun e => h0 e.symm)]
theorem ioA_lanes {a : Array Nat} (h : Lanes a) (rc : Nat) (hr : rc < 2 ^ 64) : Lanes (ioA a rc) := by
  refine ⟨by simp [ioA, h.size], fun i => ?_⟩
  rw [ioA_at h]
  split
  · exact Nat.xor_lt_two_pow (h.lt _) hr
  · exact h.lt _
theorem ioA_cub {a : Array Nat} (h : Lanes a) (r : Nat) (hr : r < 24) (i : Nat) (hi : i < 1600) : cub (ioA a (RC r)) i = iotaC r (cub a) i := by
  rw [iotaC_eq]
  obtain ⟨x, y, z, hx, hy, hz, rfl⟩ := cube_ix5 i hi
  rw [cub_at _ x y z hy hz, cub_at _ x y z hy hz, ioA_at h]
  by_cases h0 : x + 5 * y = 0
  · have hx0 : x = 0 := by omega
    have hy0 : y = 0 := by omega
    subst hx0 hy0
    simp only [Nat.zero_mul, Nat.zero_add, Nat.mul_zero, if_true]
    rw [Nat.testBit_xor, RC_bits r hr z hz, bne_xor]
  · rw [if_neg h0, iob_far r _ (by omega)]
    simp
theorem round_lanes {a : Array Nat} (h : Lanes a) (r : Nat) (hr : r < 24) : Lanes (round a (RC r)) := by
  rw [round_eq]
  exact ioA_lanes (chA_lanes (rpA_lanes (thA_lanes h))) _ (RC_lt r hr)
theorem round_cub {a : Array Nat} (h : Lanes a) (r : Nat) (hr : r < 24) {c : Nat → Bool} (hc : Agree (cub a) c) : Agree (cub (round a (RC r))) (iotaC r (chiC (piC (rhoC (thetaC c))))) := fun i hi => by
  rw [round_eq, ioA_cub (chA_lanes (rpA_lanes (thA_lanes h))) r hr i hi]
  refine iotaC_congr r (fun i hi => ?_) i hi
  rw [chA_cub (rpA_lanes (thA_lanes h)) i hi]
  refine chiC_congr (fun i hi => ?_) i hi
  rw [rpA_cub (thA_lanes h) i hi]
  refine piC_congr (rhoC_congr (fun i hi => ?_)) i hi
  rw [thA_cub h i hi]
  exact thetaC_congr hc i hi
def stA (a : Array Nat) (k : Nat) : Array Nat := (roundConstants.take k).foldl round a
theorem stA_succ (a : Array Nat) (k : Nat) (hk : k < 24) : stA a (k + 1) = round (stA a k) (RC k) := by
  unfold stA
  rw [List.take_succ_eq_append_getElem (show k < roundConstants.length from hk), List.foldl_append]
  simp only [List.foldl_cons, List.foldl_nil, RC]
  congr 1
  rw [List.getD_eq_getElem?_getD, List.getElem?_eq_getElem (show k < roundConstants.length from hk)]
  rfl
theorem stA_ok {a : Array Nat} (h : Lanes a) {c : Nat → Bool} (hc : Agree (cub a) c) : ∀ k, k ≤ 24 → Lanes (stA a k) ∧ Agree (cub (stA a k)) (rounds k c)
  | 0, _ => ⟨h, hc⟩
  | k + 1, hk => by
    obtain ⟨h1, h2⟩ := stA_ok h hc k (by omega)
    rw [stA_succ a k (by omega)]
    exact ⟨round_lanes h1 k (by omega), round_cub h1 k (by omega) h2⟩

/-! ### bytes and lanes -/
def valL (l : List Nat) : Nat := l.foldr (fun b acc => acc * 256 + b) 0
theorem valL_bit (l : List Nat) (h : ∀ b ∈ l, b < 256) (z : Nat) : (valL l).testBit z = (l.getD (z / 8) 0).testBit (z % 8) := by
  induction l generalizing z with
  | nil => simp [valL]
  | cons b l ih =>
    have e : valL (b :: l) = 2 ^ 8 * valL l + b := by simp [valL]; omega
    rw [e, Nat.testBit_two_pow_mul_add _ (show b < 2 ^ 8 from h b (by simp))]
    by_cases hz : z < 8
    · rw [if_pos hz, show z / 8 = 0 by omega, show z % 8 = z by omega]
      rfl
    · rw [if_neg hz, ih (fun x hx => h x (by simp [hx])), show (z - 8) % 8 = z % 8 by omega, show z / 8 = (z - 8) / 8 + 1 by omega]
      rfl
theorem valL_lt (l : List Nat) (h : ∀ b ∈ l, b < 256) : valL l < 256 ^ l.length := by
  induction l with
  | nil => simp [valL]
  | cons b l ih =>
    have e : valL (b :: l) = valL l * 256 + b := rfl
    have h1 := ih (fun x hx => h x (by simp [hx]))
    have h2 := h b (by simp)
    rw [e, List.length_cons, Nat.pow_succ]
    omega
def lanesOf (a : Bs) : Array Nat := (Array.range 25).map fun i => (List.range 8).foldr (fun j acc => acc * 256 + (a.getD (8 * i + j) 0).toNat) 0
theorem lanesOf_at (a : Bs) (i : Nat) (h : i < 25) : (lanesOf a).getD i 0 = valL ((List.range 8).map fun j => (a.getD (8 * i + j) 0).toNat) := by
  unfold lanesOf valL
  rw [getD_range_map 25 _ i h, List.foldr_map]
theorem mem_bytes (a : Bs) (i : Nat) : ∀ b ∈ (List.range 8).map (fun j => (a.getD (8 * i + j) 0).toNat), b < 256 := fun b hb => by
  obtain ⟨j, _, rfl⟩ := List.mem_map.1 hb
  exact UInt8.toNat_lt _
theorem lanesOf_ok (a : Bs) : Lanes (lanesOf a) := by
  refine lanes_of (by simp [lanesOf]) fun x y hx hy => ?_
  rw [lanesOf_at a _ (by omega)]
  exact Nat.lt_of_lt_of_eq (valL_lt _ (mem_bytes a _)) (by simp)
theorem lanesOf_bit (a : Bs) (i z : Nat) (hi : i < 25) (hz : z < 64) : ((lanesOf a).getD i 0).testBit z = (a.getD (8 * i + z / 8) 0).toNat.testBit (z % 8) := by
  rw [lanesOf_at a i hi, valL_bit _ (mem_bytes a i)]
  congr 1
  rw [List.getD_eq_getElem?_getD, List.getElem?_map, List.getElem?_range (by omega)]
  rfl
theorem lanesOf_cub (a : Bs) (ha : a.length = 200) : Agree (cub (lanesOf a)) (cubeIn (bitsB a)) := fun i hi => by
  obtain ⟨x, y, z, hx, hy, hz, rfl⟩ := cube_ix5 i hi
  unfold cubeIn
  rw [cub_at _ x y z hy hz, nil5_at x y z hx hy hz, lanesOf_bit a _ z (by omega) hz, show 64 * (5 * y + x) + z = 8 * (8 * (x + 5 * y) + z / 8) + z % 8 by omega, bitsB_getD a _ _ (by omega) (by omega)]
theorem kf_eq (a : Bs) : kf a = (List.range 200).map fun k => UInt8.ofNat ((stA (lanesOf a) 24).getD (k / 8) 0 / 256 ^ (k % 8) % 256) := rfl
theorem kf_bit (a : Bs) (k j : Nat) (hk : k < 200) (hj : j < 8) : ((kf a).getD k 0).toNat.testBit j = ((stA (lanesOf a) 24).getD (k / 8) 0).testBit (8 * (k % 8) + j) := by
  rw [kf_eq, List.getD_eq_getElem?_getD, List.getElem?_map, List.getElem?_range hk]
  simp only [Option.map_some, Option.getD_some]
  rw [UInt8.toNat_ofNat', show (256 : Nat) = 2 ^ 8 from rfl, Nat.testBit_mod_two_pow, Nat.testBit_mod_two_pow, ← Nat.pow_mul, Nat.testBit_div_two_pow, decide_eq_true hj]
  rw [Bool.true_and, Bool.true_and, Nat.add_comm]

set_option maxRecDepth 100000 in
theorem permB_bits (a : Bs) (ha : a.length = 200) : permB (bitsB a) = bitsB (kf a) := by
  apply List.ext_getElem?
  intro i
  by_cases hi : i < 1600
  · have e : ∀ l : Bits, l.length = 1600 → l[i]? = some (l.getD i false) := fun l hl => by
      rw [List.getD_eq_getElem?_getD, List.getElem?_eq_getElem (by omega)]
      rfl
    rw [e _ (permB_length _), e _ (by rw [bitsB_length, kf_length])]
    congr 1
    obtain ⟨_, h2⟩ := stA_ok (lanesOf_ok a) (lanesOf_cub a ha) 24 (Nat.le_refl _)
    have h3 : (permB (bitsB a)).getD i false = rounds 24 (cubeIn (bitsB a)) (lin i) := by
      unfold permB
      rw [List.getD_eq_getElem?_getD, List.getElem?_map, List.getElem?_range hi]
      rfl
    rw [h3, ← h2 _ (lin_lt i hi)]
    obtain ⟨x, y, z, hx, hy, hz, rfl⟩ := bit_ix i hi
    rw [lin_at x y z hx hy hz, cub_at _ x y z hy hz]
    have h4 : 64 * (5 * y + x) + z = 8 * (8 * (5 * y + x) + z / 8) + z % 8 := by omega
    rw [h4, bitsB_getD _ _ _ (by rw [kf_length]; omega) (by omega), kf_bit a _ _ (by omega) (by omega)]
    rw [show (8 * (5 * y + x) + z / 8) / 8 = x + 5 * y by omega, show 8 * ((8 * (5 * y + x) + z / 8) % 8) + z % 8 = z by omega]
  · rw [List.getElem?_eq_none (by rw [permB_length]; omega), List.getElem?_eq_none (by rw [bitsB_length, kf_length]; omega)]
end Go.Sha
