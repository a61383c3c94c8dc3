/- The reference's output bits are those of the library's sponge. Plain; no condition but that the rate is 1 to 168 bytes. -/
import Derived.Test.YthlknckmhjnkjaaSpg
namespace Go.Sha

theorem absorb_blocks (P : Bs) (r out : Nat) (ds : UInt8) (h0 : 0 < r) (hr : r ≤ 168) : ∀ m, m * r ≤ P.length → absorb (newD r out ds) (P.take (m * r)) = { newD r out ds with a := absY P r m }
  | 0, _ => by simp only [Nat.zero_mul, List.take_zero, absorb_nil, absY]; rfl
  | m + 1, h => by
    have hm : m * r + r ≤ P.length := by rw [Nat.succ_mul] at h; exact h
    have e : P.take ((m + 1) * r) = P.take (m * r) ++ (P.drop (m * r)).take r := by rw [Nat.succ_mul, List.take_add]
    have hl := blk_length P r m h
    rw [e, absorb_append, absorb_blocks P r out ds h0 hr m (by omega), absorb_piece _ _ ⟨absY_length P r m, h0, hr⟩ (by rw [hl]; show 0 + r ≤ r; omega)]
    rw [hl, if_pos (by show 0 + r = r; omega)]
    rfl
theorem padY_getD (ds : UInt8) (q : Nat) (hq : 0 < q) (j : Nat) (hj : j < q) : (padY ds q).getD j 0 = (if j = 0 then ds else 0) ^^^ (if j = q - 1 then 128 else 0) := by
  match q, hq with
  | 1, _ =>
    obtain rfl : j = 0 := by omega
    rfl
  | q + 2, _ =>
    show (ds :: List.replicate q 0 ++ [128]).getD j 0 = _
    rw [List.getD_eq_getElem?_getD]
    by_cases h0 : j = 0
    · subst h0
      rw [if_pos rfl, if_neg (by omega)]
      simp
    · rw [if_neg h0]
      obtain ⟨j', rfl⟩ : ∃ j', j = j' + 1 := ⟨j - 1, by omega⟩
      by_cases h1 : j' = q
      · subst h1
        rw [if_pos (by omega), List.cons_append, List.getElem?_cons_succ, List.getElem?_append_right (by simp)]
        simp
      · rw [if_neg (by omega), List.cons_append, List.getElem?_cons_succ, List.getElem?_append_left (by simp; omega), List.getElem?_replicate_of_lt (by omega)]
        simp
/-- the last block: what is left of the bytes, and the padding -/
theorem pad_last (a rest : Bs) (r : Nat) (ds : UInt8) (ha : a.length = 200) (hr : r ≤ 168) (hn : rest.length < r) :
    let a0 := xorAt a 0 rest
    let a1 := a0.set rest.length (a0.getD rest.length 0 ^^^ ds)
    a1.set (r - 1) (a1.getD (r - 1) 0 ^^^ 128) = xorAt a 0 (rest ++ padY ds (r - rest.length)) := by
  intro a0 a1
  have hp := padY_length ds (r - rest.length) (by omega)
  have hl : (rest ++ padY ds (r - rest.length)).length = r := by rw [List.length_append, hp]; omega
  have h0 : a0.length = 200 := by show (xorAt a 0 rest).length = 200; rw [xorAt_length _ _ _ (by omega), ha]
  have h1 : a1.length = 200 := by show (List.set _ _ _).length = 200; rw [List.length_set, h0]
  refine ext_getD 0 (by rw [List.length_set, h1, xorAt_length _ _ _ (by omega), ha]) (fun j hj => ?_)
  rw [List.length_set, h1] at hj
  have g0 : ∀ j, a0.getD j 0 = if j < rest.length then a.getD j 0 ^^^ rest.getD j 0 else a.getD j 0 := fun j => by
    show (xorAt a 0 rest).getD j 0 = _
    rw [xorAt_getD _ _ _ _ (by omega)]
    simp
  have g1 : ∀ j, a1.getD j 0 = if rest.length = j then a0.getD j 0 ^^^ ds else a0.getD j 0 := fun j => by
    show (a0.set rest.length (a0.getD rest.length 0 ^^^ ds)).getD j 0 = _
    rw [getD_set_eq, h0]
    by_cases h : rest.length = j
    · rw [if_pos ⟨h, by omega⟩, if_pos h, h]
    · rw [if_neg (fun e => h e.1), if_neg h]
  rw [getD_set_eq, h1, xorAt_getD _ _ _ _ (by omega), hl, g1, g1, g0, g0]
  simp only [Nat.zero_le, true_and, Nat.zero_add, Nat.sub_zero]
  by_cases c1 : j < r
  · rw [if_pos c1]
    have e : (rest ++ padY ds (r - rest.length)).getD j 0 = if j < rest.length then rest.getD j 0 else (padY ds (r - rest.length)).getD (j - rest.length) 0 := by
      simp only [List.getD_eq_getElem?_getD]
      by_cases c : j < rest.length
      · rw [if_pos c, List.getElem?_append_left c]
      · rw [if_neg c, List.getElem?_append_right (by omega)]
    rw [e]
    by_cases c2 : j < rest.length
    · rw [if_neg (show ¬ (r - 1 = j ∧ r - 1 < 200) by omega), if_neg (show ¬ rest.length = j by omega), if_pos c2, if_pos c2]
    · rw [if_neg c2, if_neg c2, padY_getD _ _ (by omega) _ (by omega)]
      by_cases c3 : rest.length = j
      · subst c3
        rw [if_pos rfl, if_pos (show rest.length - rest.length = 0 by omega)]
        by_cases c4 : r - 1 = rest.length
        · rw [if_pos ⟨c4, by omega⟩, if_pos c4.symm, if_neg (by omega), if_pos (by omega), c4, UInt8.xor_assoc]
        · rw [if_neg (fun e => c4 e.1), if_neg (by omega), UInt8.xor_zero]
      · rw [if_neg c3, if_neg (show ¬ j - rest.length = 0 by omega)]
        by_cases c4 : r - 1 = j
        · rw [if_pos ⟨c4, by omega⟩, if_neg (by omega), if_neg (by omega), if_pos (by omega), c4, UInt8.zero_xor]
        · rw [if_neg (fun e => c4 e.1), if_neg (by omega)]
          simp
  · rw [if_neg c1, if_neg (by omega), if_neg (by omega), if_neg (by omega)]
theorem pad_state (data : Bs) (r out : Nat) (ds : UInt8) (h0 : 0 < r) (hr : r ≤ 168) :
    padD (absorb (newD r out ds) data) = { newD r out ds with a := absY (data ++ padY ds (r - data.length % r)) r (data.length / r + 1), st := 1 } := by
  obtain ⟨M, hM⟩ : ∃ M, M = data.length / r := ⟨_, rfl⟩
  obtain ⟨P, hP⟩ : ∃ P, P = data ++ padY ds (r - data.length % r) := ⟨_, rfl⟩
  have hmod := Nat.mod_lt data.length h0
  have hdm := Nat.div_add_mod data.length r
  rw [← hM, Nat.mul_comm] at hdm
  have hpl := padY_length ds (r - data.length % r) (by omega)
  have hPl : P.length = (M + 1) * r := by rw [hP, List.length_append, hpl, Nat.succ_mul]; omega
  rw [← hM, ← hP]
  have hrest : (data.drop (M * r)).length = data.length % r := by simp; omega
  have e1 : data = P.take (M * r) ++ data.drop (M * r) := by
    have : P.take (M * r) = data.take (M * r) := by rw [hP, List.take_append_of_le_length (by omega)]
    rw [this, List.take_append_drop]
  have e2 : (P.drop (M * r)).take r = data.drop (M * r) ++ padY ds (r - (data.drop (M * r)).length) := by
    rw [hrest, hP, List.drop_append_of_le_length (by omega), List.take_of_length_le (by rw [List.length_append, hrest, hpl]; omega)]
  have e3 : absorb (newD r out ds) data = { newD r out ds with a := xorAt (absY P r M) 0 (data.drop (M * r)), n := (data.drop (M * r)).length } := by
    conv => lhs; rw [e1]
    rw [absorb_append, absorb_blocks P r out ds h0 hr M (by rw [hPl]; exact Nat.mul_le_mul_right _ (by omega)), absorb_piece _ _ ⟨absY_length P r M, h0, hr⟩ (by show 0 + _ ≤ r; omega), if_neg (by show ¬ 0 + _ = r; omega)]
    show _ = _
    congr 1
    show 0 + _ = _
    omega
  rw [e3]
  have h := pad_last (absY P r M) (data.drop (M * r)) r ds (absY_length P r M) hr (by omega)
  simp only at h
  unfold padD
  simp only [newD]
  rw [h, ← e2]
  rfl

/-! ### squeezing -/
def kfN (s : Bs) : Nat → Bs
  | 0 => s
  | k + 1 => kf (kfN s k)
theorem kfN_length (s : Bs) (hs : s.length = 200) : ∀ k, (kfN s k).length = 200
  | 0 => hs
  | _ + 1 => kf_length _
def outY (s : Bs) (r : Nat) : Nat → Bs
  | 0 => s.take r
  | k + 1 => outY s r k ++ (kfN s (k + 1)).take r
theorem sqB_bits (s : Bs) (hs : s.length = 200) : ∀ k, sqB (bitsB s) k = bitsB (kfN s k)
  | 0 => rfl
  | k + 1 => by
    simp only [sqB, kfN]
    rw [sqB_bits s hs k, permB_bits _ (kfN_length s hs k)]
theorem outB_bits (s : Bs) (hs : s.length = 200) (r : Nat) : ∀ k, outB (bitsB s) (8 * r) k = bitsB (outY s r k)
  | 0 => bitsB_take s r
  | k + 1 => by
    simp only [outB, outY]
    rw [outB_bits s hs r k, sqB_bits s hs, bitsB_take, bitsB_append]
theorem squeeze_blocks (d : Dg) (hd : d.a.length = 200) (hn : d.n = 0) (h0 : 0 < d.rate) (hr : d.rate ≤ 168) : ∀ k, squeeze ((k + 1) * d.rate) d = (outY d.a d.rate k, { d with a := kfN d.a k, n := d.rate })
  | 0 => by
    rw [Nat.zero_add, Nat.one_mul, squeeze_piece _ _ ⟨hd, by omega, h0, hr⟩ (by omega) (by omega), hn]
    simp [outY, kfN]
  | k + 1 => by
    rw [Nat.succ_mul (k + 1), squeeze_add, squeeze_blocks d hd hn h0 hr k]
    simp only [outY]
    have h1 : ∀ j, 0 < j → j ≤ d.rate → squeeze j { d with a := kfN d.a k, n := d.rate } = squeeze j { d with a := kf (kfN d.a k), n := 0 } := fun j hj _ => by
      obtain ⟨j, rfl⟩ : ∃ i, j = i + 1 := ⟨j - 1, by omega⟩
      have e1 : squeeze1 ({ d with a := kfN d.a k, n := d.rate } : Dg) = { d with a := kf (kfN d.a k), n := 0 } := by
        unfold squeeze1
        rw [if_pos rfl]
        rfl
      have e2 : squeeze1 ({ d with a := kf (kfN d.a k), n := 0 } : Dg) = { d with a := kf (kfN d.a k), n := 0 } := by
        unfold squeeze1
        rw [if_neg (by show ¬ 0 = d.rate; omega)]
      simp only [squeeze, e1, e2]
    rw [h1 d.rate h0 (Nat.le_refl _), squeeze_piece d.rate { d with a := kf (kfN d.a k), n := 0 } ⟨kf_length _, Nat.zero_le _, h0, hr⟩ (by show 0 + d.rate ≤ d.rate; omega) h0]
    simp [kfN]
theorem squeeze_take (d : Dg) (j k : Nat) (h : j ≤ k) : (squeeze j d).1 = (squeeze k d).1.take j := by
  obtain ⟨m, rfl⟩ : ∃ m, k = j + m := ⟨k - j, by omega⟩
  rw [squeeze_add]
  simp only
  rw [List.take_left' (squeeze_length j d)]
theorem outN_enough (r L : Nat) (h0 : 0 < r) : L ≤ (outN (8 * r) (8 * L) + 1) * r := by
  unfold outN
  by_cases hL : L = 0
  · omega
  · have h := Nat.lt_div_mul_add (a := 8 * L - 1) (show 0 < 8 * r by omega)
    generalize (8 * L - 1) / (8 * r) = q at h
    have e : q * (8 * r) + 8 * r = 8 * ((q + 1) * r) := by rw [Nat.mul_left_comm 8, Nat.add_mul q 1, Nat.one_mul]
    omega
/-- the reference's output, as bits, is that of the library's sponge -/
theorem spongeB_xof {ds : UInt8} {t : Bits} (h : Dom ds t) (data : Bs) (r out L : Nat) (h0 : 0 < r) (hr : r ≤ 168) : spongeB (bitsB data ++ t) (8 * r) (8 * L) = bitsB (xof r out ds data L) := by
  obtain ⟨P, hP⟩ : ∃ P, P = data ++ padY ds (r - data.length % r) := ⟨_, rfl⟩
  have hmod := Nat.mod_lt data.length h0
  have hdm := Nat.div_add_mod data.length r
  have hpl := padY_length ds (r - data.length % r) (by omega)
  have hPl : P.length = (data.length / r + 1) * r := by rw [hP, List.length_append, hpl, Nat.succ_mul, Nat.mul_comm (data.length / r)]; omega
  unfold spongeB
  rw [padB_bits h data r h0, ← hP, bitsB_length, hPl, show 8 * ((data.length / r + 1) * r) / (8 * r) = data.length / r + 1 by rw [Nat.mul_left_comm, Nat.mul_div_cancel _ (by omega)]]
  rw [absB_bits P r hr _ (by rw [hPl]; exact Nat.le_refl _), outB_bits _ (absY_length _ _ _), bitsB_take]
  congr 1
  unfold xof
  rw [pad_state data r out ds h0 hr, ← hP, squeeze_take _ L _ (outN_enough r L h0)]
  have := squeeze_blocks ({ newD r out ds with a := absY P r (data.length / r + 1), st := 1 } : Dg) (absY_length _ _ _) rfl h0 hr (outN (8 * r) (8 * L))
  rw [show ({ newD r out ds with a := absY P r (data.length / r + 1), st := 1 } : Dg).rate = r from rfl] at this
  rw [this]
end Go.Sha
