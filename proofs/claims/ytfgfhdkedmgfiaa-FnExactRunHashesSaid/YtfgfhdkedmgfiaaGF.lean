/- Contracts and lemmas, merged: Spg, SpgB, Spec. Their conditions stand in each. -/
import Derived.Test.YtfgfhdkedmgfiaaGA
import Derived.Test.YtfgfhdkedmgfiaaGB
import Derived.Test.YtfgfhdkedmgfiaaGC
import Derived.Test.YtfgfhdkedmgfiaaGD
import Derived.Test.YtfgfhdkedmgfiaaGE
section
namespace Go.Sha

theorem ext_getD {α : Type} (d : α) {l m : List α} (h : l.length = m.length) (hg : ∀ i, i < l.length → l.getD i d = m.getD i d) : l = m := by
  apply List.ext_getElem h
  intro i h1 h2
  have := hg i h1
  simpa [List.getD_eq_getElem?_getD, List.getElem?_eq_getElem h1, List.getElem?_eq_getElem h2] using this
theorem bitsB_at (l : Bs) (i : Nat) (h : i < 8 * l.length) : (bitsB l).getD i false = (l.getD (i / 8) 0).toNat.testBit (i % 8) := by
  have := bitsB_getD l (i / 8) (i % 8) (by omega) (by omega)
  rwa [show 8 * (i / 8) + i % 8 = i by omega] at this
theorem bitsB_append (l m : Bs) : bitsB (l ++ m) = bitsB l ++ bitsB m := by simp [bitsB]
theorem bitsB_take (l : Bs) (k : Nat) : (bitsB l).take (8 * k) = bitsB (l.take k) := by
  by_cases h : k ≤ l.length
  · conv => lhs; rw [← List.take_append_drop k l, bitsB_append]
    rw [List.take_left' (by rw [bitsB_length]; simp; omega)]
  · rw [List.take_of_length_le (by rw [bitsB_length]; omega), List.take_of_length_le (by omega)]
theorem getD_set_eq {α : Type} (l : List α) (i j : Nat) (v d : α) : (l.set i v).getD j d = if i = j ∧ i < l.length then v else l.getD j d := by
  simp only [List.getD_eq_getElem?_getD, List.getElem?_set]
  by_cases h : i = j
  · subst h
    by_cases h2 : i < l.length
    · simp [h2]
    · simp [h2]
  · simp [h]
theorem xorK_getD (s p : Bits) (i k j : Nat) (hj : j < s.length) : (xorK s p i k).getD j false = if j < k then (s.getD j false != p.getD (i + j) false) else s.getD j false := by
  induction k with
  | zero => rfl
  | succ k ih =>
    simp only [xorK]
    rw [getD_set_eq]
    by_cases h : k = j
    · subst h
      rw [if_pos ⟨rfl, by rw [xorK_length]; exact hj⟩, if_pos (by omega), ih, if_neg (by omega)]
    · rw [if_neg (fun e => h e.1), ih]
      by_cases h2 : j < k
      · rw [if_pos h2, if_pos (by omega)]
      · rw [if_neg h2, if_neg (by omega)]
theorem xorAt_getD (a p : Bs) (i j : Nat) (h : i + p.length ≤ a.length) : (xorAt a i p).getD j 0 = if i ≤ j ∧ j < i + p.length then a.getD j 0 ^^^ p.getD (j - i) 0 else a.getD j 0 := by
  unfold xorAt
  have hz : (List.zipWith (· ^^^ ·) (a.drop i) p).length = p.length := by simp; omega
  have ht : (a.take i).length = i := by simp; omega
  simp only [List.getD_eq_getElem?_getD]
  by_cases h1 : j < i
  · rw [if_neg (by omega), List.getElem?_append_left (by rw [List.length_append, ht, hz]; omega), List.getElem?_append_left (by omega), List.getElem?_take_of_lt h1]
  · by_cases h2 : j < i + p.length
    · rw [if_pos ⟨by omega, h2⟩, List.getElem?_append_left (by rw [List.length_append, ht, hz]; omega), List.getElem?_append_right (by omega), ht]
      have e1 : a[j]? = some a[j] := List.getElem?_eq_getElem (by omega)
      have e2 : p[j - i]? = some p[j - i] := List.getElem?_eq_getElem (by omega)
      rw [List.getElem?_zipWith, List.getElem?_drop, show i + (j - i) = j by omega, e1, e2]
      rfl
    · rw [if_neg (by omega), List.getElem?_append_right (by rw [List.length_append, ht, hz]; omega), List.length_append, ht, hz, List.getElem?_drop, show i + p.length + (j - (i + p.length)) = j by omega]

/-- m blocks of bytes absorbed -/
def absY (P : Bs) (r : Nat) : Nat → Bs
  | 0 => List.replicate 200 0
  | m + 1 => kf (xorAt (absY P r m) 0 ((P.drop (m * r)).take r))
theorem absY_length (P : Bs) (r m : Nat) : (absY P r m).length = 200 := by
  cases m with
  | zero => exact List.length_replicate
  | succ m => exact kf_length _
theorem bits_zero : bitsB (List.replicate 200 0) = List.replicate 1600 false := by decide +kernel
theorem blk_length (P : Bs) (r m : Nat) (h : (m + 1) * r ≤ P.length) : ((P.drop (m * r)).take r).length = r := by
  rw [Nat.succ_mul] at h
  simp
  omega
theorem absB_bits (P : Bs) (r : Nat) (hr : r ≤ 168) : ∀ m, m * r ≤ P.length → absB (bitsB P) (8 * r) m = bitsB (absY P r m)
  | 0, _ => by simp only [absB, absY]; exact bits_zero.symm
  | m + 1, h => by
    have hm : m * r + r ≤ P.length := by rw [Nat.succ_mul] at h; exact h
    simp only [absB, absY]
    rw [absB_bits P r hr m (by omega)]
    have hl := blk_length P r m h
    have ha := absY_length P r m
    have e : xorK (bitsB (absY P r m)) (bitsB P) (m * (8 * r)) (8 * r) = bitsB (xorAt (absY P r m) 0 ((P.drop (m * r)).take r)) := by
      refine ext_getD false (by rw [xorK_length, bitsB_length, bitsB_length, xorAt_length _ _ _ (by omega)]) (fun i hi => ?_)
      rw [xorK_length, bitsB_length, ha] at hi
      rw [xorK_getD _ _ _ _ _ (by rw [bitsB_length, ha]; exact hi), bitsB_at (absY P r m) i (by omega), bitsB_at (xorAt (absY P r m) 0 _) i (by rw [xorAt_length _ _ _ (by omega)]; omega), xorAt_getD _ _ _ _ (by omega), hl]
      by_cases h1 : i < 8 * r
      · rw [if_pos h1, if_pos (by omega), show m * (8 * r) = 8 * (m * r) by rw [Nat.mul_left_comm], bitsB_at _ _ (by omega), show (8 * (m * r) + i) / 8 = m * r + i / 8 by omega, show (8 * (m * r) + i) % 8 = i % 8 by omega, UInt8.toNat_xor, Nat.testBit_xor, bne_xor]
        congr 3
        rw [Nat.sub_zero, List.getD_eq_getElem?_getD, List.getD_eq_getElem?_getD, List.getElem?_take_of_lt (by omega), List.getElem?_drop]
      · rw [if_neg h1, if_neg (by omega)]
    rw [e, permB_bits _ (by rw [xorAt_length _ _ _ (by omega)]; exact ha)]

/-- what lies behind the bytes: the byte of domain and the padding, q bytes in all -/
def padY (ds : UInt8) : Nat → Bs
  | 0 => []
  | 1 => [ds ^^^ 128]
  | q + 2 => ds :: List.replicate q 0 ++ [128]
theorem padY_length (ds : UInt8) (q : Nat) (h : 0 < q) : (padY ds q).length = q := by
  match q, h with
  | 1, _ => rfl
  | q + 2, _ => simp [padY]
structure Dom (ds : UInt8) (t : Bits) : Prop where
  len : t.length ≤ 6
  more : byteBits ds = t ++ [true] ++ List.replicate (7 - t.length) false
  one : byteBits (ds ^^^ 128) = t ++ [true] ++ List.replicate (6 - t.length) false ++ [true]
theorem dom_sha : Dom 6 [false, true] := ⟨by decide, by decide, by decide⟩
theorem dom_shake : Dom 31 [true, true, true, true] := ⟨by decide, by decide, by decide⟩
theorem dom_cshake : Dom 4 [false, false] := ⟨by decide, by decide, by decide⟩
theorem bits_zeros (q : Nat) : bitsB (List.replicate q 0) = List.replicate (8 * q) false := by
  induction q with
  | zero => rfl
  | succ q ih =>
    have e : bitsB (List.replicate (q + 1) 0) = byteBits 0 ++ bitsB (List.replicate q 0) := rfl
    rw [e, ih, show byteBits 0 = List.replicate 8 false by decide, List.replicate_append_replicate]
    congr 1
    omega
theorem padY_bits {ds : UInt8} {t : Bits} (h : Dom ds t) (q : Nat) (hq : 0 < q) : bitsB (padY ds q) = t ++ [true] ++ List.replicate (8 * q - t.length - 2) false ++ [true] := by
  have h1 := h.len
  match q, hq with
  | 1, _ =>
    show byteBits (ds ^^^ 128) ++ [] = _
    rw [List.append_nil, h.one]
    congr 3
    omega
  | q + 2, _ =>
    show bitsB (ds :: List.replicate q 0 ++ [128]) = _
    rw [bitsB_append]
    have e1 : bitsB (ds :: List.replicate q 0) = byteBits ds ++ bitsB (List.replicate q 0) := rfl
    have e2 : bitsB [128] = List.replicate 7 false ++ [true] := by decide
    rw [e1, e2, h.more, bits_zeros]
    simp only [List.append_assoc]
    congr 2
    rw [← List.append_assoc (List.replicate (7 - t.length) false), List.replicate_append_replicate, ← List.append_assoc (List.replicate _ false), List.replicate_append_replicate]
    congr 2
    omega
theorem padZ_val (n t r : Nat) (ht : t ≤ 6) (hr : 0 < r) : padZ (8 * n + t) (8 * r) = 8 * (r - n % r) - t - 2 := by
  have h1 : n % r < r := Nat.mod_lt _ hr
  have h2 := Nat.div_add_mod n r
  obtain ⟨q, hq⟩ : ∃ q, q = n / r := ⟨_, rfl⟩
  obtain ⟨m, hm⟩ : ∃ m, m = n % r := ⟨_, rfl⟩
  obtain ⟨rq, hrq⟩ : ∃ rq, rq = r * q := ⟨_, rfl⟩
  rw [← hq, ← hm, ← hrq] at h2
  rw [← hm] at h1 ⊢
  have e : (-(((8 * n + t : Nat)) : Int) - 2) % (((8 * r : Nat)) : Int) = ((8 * (r - m) - t - 2 : Nat) : Int) := by
    have e1 : (-(((8 * n + t : Nat)) : Int) - 2) = ((8 * (r - m) - t - 2 : Nat) : Int) + ((8 * r : Nat) : Int) * (-((q : Int) + 1)) := by
      rw [Int.mul_neg, Int.mul_add, Int.mul_one]
      have e2 : ((8 * r : Nat) : Int) * (q : Int) = 8 * (rq : Int) := by
        rw [hrq]; push_cast; rw [Int.mul_assoc]
      rw [e2]
      omega
    rw [e1, Int.add_mul_emod_self_left, Int.emod_eq_of_lt (by omega) (by omega)]
  unfold padZ
  rw [e]
  rfl
theorem padB_bits {ds : UInt8} {t : Bits} (h : Dom ds t) (data : Bs) (r : Nat) (hr : 0 < r) : padB (bitsB data ++ t) (8 * r) = bitsB (data ++ padY ds (r - data.length % r)) := by
  have h1 : data.length % r < r := Nat.mod_lt _ hr
  unfold padB
  rw [List.length_append, bitsB_length, padZ_val _ _ _ h.len hr, bitsB_append, padY_bits h _ (by omega)]
  simp only [List.append_assoc]
end Go.Sha
end

section
namespace Go.Sha

theorem absorb_blocks (P : Bs) (r out : Nat) (ds : UInt8) (h0 : 0 < r) (hr : r ≤ 168) : ∀ m, m * r ≤ P.length → absorb (newD r out ds) (P.take (m * r)) = { newD r out ds with a := absY P r m }
  | 0, _ => by simp only [Nat.zero_mul, List.take_zero, absorb_nil, absY]; rfl
  | m + 1, h => by
    have hm : m * r + r ≤ P.length := by rw [Nat.succ_mul] at h; exact h
    have e : P.take ((m + 1) * r) = P.take (m * r) ++ (P.drop (m * r)).take r := by rw [Nat.succ_mul, List.take_add]
    have hl := blk_length P r m h
    rw [e, absorb_append, absorb_blocks P r out ds h0 hr m (by omega), absorb_piece _ _ ⟨absY_length P r m, h0, hr⟩ (by rw [hl]; show 0 + r ≤ r; omega)]
    rw [hl, if_pos (by show 0 + r = r; omega)]
    rfl
theorem padY_getD (ds : UInt8) (q : Nat) (hq : 0 < q) (j : Nat) (hj : j < q) : (padY ds q).getD j 0 = (if j = 0 then ds else 0) ^^^ (if j = q - 1 then 128 else 0) := by
  match q, hq with
  | 1, _ =>
    obtain rfl : j = 0 := by omega
    rfl
  | q + 2, _ =>
    show (ds :: List.replicate q 0 ++ [128]).getD j 0 = _
    rw [List.getD_eq_getElem?_getD]
    by_cases h0 : j = 0
    · subst h0
      rw [if_pos rfl, if_neg (by omega)]
      simp
    · rw [if_neg h0]
      obtain ⟨j', rfl⟩ : ∃ j', j = j' + 1 := ⟨j - 1, by omega⟩
      by_cases h1 : j' = q
      · subst h1
        rw [if_pos (by omega), List.cons_append, List.getElem?_cons_succ, List.getElem?_append_right (by simp)]
        simp
      · rw [if_neg (by omega), List.cons_append, List.getElem?_cons_succ, List.getElem?_append_left (by simp; omega), List.getElem?_replicate_of_lt (by omega)]
        simp
/-- the last block: what is left of the bytes, and the padding -/
theorem pad_last (a rest : Bs) (r : Nat) (ds : UInt8) (ha : a.length = 200) (hr : r ≤ 168) (hn : rest.length < r) :
    let a0 := xorAt a 0 rest
    let a1 := a0.set rest.length (a0.getD rest.length 0 ^^^ ds)
    a1.set (r - 1) (a1.getD (r - 1) 0 ^^^ 128) = xorAt a 0 (rest ++ padY ds (r - rest.length)) := by
  intro a0 a1
  have hp := padY_length ds (r - rest.length) (by omega)
  have hl : (rest ++ padY ds (r - rest.length)).length = r := by rw [List.length_append, hp]; omega
  have h0 : a0.length = 200 := by show (xorAt a 0 rest).length = 200; rw [xorAt_length _ _ _ (by omega), ha]
  have h1 : a1.length = 200 := by show (List.set _ _ _).length = 200; rw [List.length_set, h0]
  refine ext_getD 0 (by rw [List.length_set, h1, xorAt_length _ _ _ (by omega), ha]) (fun j hj => ?_)
  rw [List.length_set, h1] at hj
  have g0 : ∀ j, a0.getD j 0 = if j < rest.length then a.getD j 0 ^^^ rest.getD j 0 else a.getD j 0 := fun j => by
    show (xorAt a 0 rest).getD j 0 = _
    rw [xorAt_getD _ _ _ _ (by omega)]
    simp
  have g1 : ∀ j, a1.getD j 0 = if rest.length = j then a0.getD j 0 ^^^ ds else a0.getD j 0 := fun j => by
    show (a0.set rest.length (a0.getD rest.length 0 ^^^ ds)).getD j 0 = _
    rw [getD_set_eq, h0]
    by_cases h : rest.length = j
    · rw [if_pos ⟨h, by omega⟩, if_pos h, h]
    · rw [if_neg (fun e => h e.1), if_neg h]
  rw [getD_set_eq, h1, xorAt_getD _ _ _ _ (by omega), hl, g1, g1, g0, g0]
  simp only [Nat.zero_le, true_and, Nat.zero_add, Nat.sub_zero]
  by_cases c1 : j < r
  · rw [if_pos c1]
    have e : (rest ++ padY ds (r - rest.length)).getD j 0 = if j < rest.length then rest.getD j 0 else (padY ds (r - rest.length)).getD (j - rest.length) 0 := by
      simp only [List.getD_eq_getElem?_getD]
      by_cases c : j < rest.length
      · rw [if_pos c, List.getElem?_append_left c]
      · rw [if_neg c, List.getElem?_append_right (by omega)]
    rw [e]
    by_cases c2 : j < rest.length
    · rw [if_neg (show ¬ (r - 1 = j ∧ r - 1 < 200) by omega), if_neg (show ¬ rest.length = j by omega), if_pos c2, if_pos c2]
    · rw [if_neg c2, if_neg c2, padY_getD _ _ (by omega) _ (by omega)]
      by_cases c3 : rest.length = j
      · subst c3
        rw [if_pos rfl, if_pos (show rest.length - rest.length = 0 by omega)]
        by_cases c4 : r - 1 = rest.length
        · rw [if_pos ⟨c4, by omega⟩, if_pos c4.symm, if_neg (by omega), if_pos (by omega), c4, UInt8.xor_assoc]
        · rw [if_neg (fun e => c4 e.1), if_neg (by omega), UInt8.xor_zero]
      · rw [if_neg c3, if_neg (show ¬ j - rest.length = 0 by omega)]
        by_cases c4 : r - 1 = j
        · rw [if_pos ⟨c4, by omega⟩, if_neg (by omega), if_neg (by omega), if_pos (by omega), c4, UInt8.zero_xor]
        · rw [if_neg (fun e => c4 e.1), if_neg (by omega)]
          simp
  · rw [if_neg c1, if_neg (by omega), if_neg (by omega), if_neg (by omega)]
theorem pad_state (data : Bs) (r out : Nat) (ds : UInt8) (h0 : 0 < r) (hr : r ≤ 168) :
    padD (absorb (newD r out ds) data) = { newD r out ds with a := absY (data ++ padY ds (r - data.length % r)) r (data.length / r + 1), st := 1 } := by
  obtain ⟨M, hM⟩ : ∃ M, M = data.length / r := ⟨_, rfl⟩
  obtain ⟨P, hP⟩ : ∃ P, P = data ++ padY ds (r - data.length % r) := ⟨_, rfl⟩
  have hmod := Nat.mod_lt data.length h0
  have hdm := Nat.div_add_mod data.length r
  rw [← hM, Nat.mul_comm] at hdm
  have hpl := padY_length ds (r - data.length % r) (by omega)
  have hPl : P.length = (M + 1) * r := by rw [hP, List.length_append, hpl, Nat.succ_mul]; omega
  rw [← hM, ← hP]
  have hrest : (data.drop (M * r)).length = data.length % r := by simp; omega
  have e1 : data = P.take (M * r) ++ data.drop (M * r) := by
    have : P.take (M * r) = data.take (M * r) := by rw [hP, List.take_append_of_le_length (by omega)]
    rw [this, List.take_append_drop]
  have e2 : (P.drop (M * r)).take r = data.drop (M * r) ++ padY ds (r - (data.drop (M * r)).length) := by
    rw [hrest, hP, List.drop_append_of_le_length (by omega), List.take_of_length_le (by rw [List.length_append, hrest, hpl]; omega)]
  have e3 : absorb (newD r out ds) data = { newD r out ds with a := xorAt (absY P r M) 0 (data.drop (M * r)), n := (data.drop (M * r)).length } := by
    conv => lhs; rw [e1]
    rw [absorb_append, absorb_blocks P r out ds h0 hr M (by rw [hPl]; exact Nat.mul_le_mul_right _ (by omega)), absorb_piece _ _ ⟨absY_length P r M, h0, hr⟩ (by show 0 + _ ≤ r; omega), if_neg (by show ¬ 0 + _ = r; omega)]
    show _ = _
    congr 1
    show 0 + _ = _
    omega
  rw [e3]
  have h := pad_last (absY P r M) (data.drop (M * r)) r ds (absY_length P r M) hr (by omega)
  simp only at h
  unfold padD
  simp only [newD]
  rw [h, ← e2]
  rfl

/-! ### squeezing -/
def kfN (s : Bs) : Nat → Bs
  | 0 => s
  | k + 1 => kf (kfN s k)
theorem kfN_length (s : Bs) (hs : s.length = 200) : ∀ k, (kfN s k).length = 200
  | 0 => hs
  | _ + 1 => kf_length _
def outY (s : Bs) (r : Nat) : Nat → Bs
  | 0 => s.take r
  | k + 1 => outY s r k ++ (kfN s (k + 1)).take r
theorem sqB_bits (s : Bs) (hs : s.length = 200) : ∀ k, sqB (bitsB s) k = bitsB (kfN s k)
  | 0 => rfl
  | k + 1 => by
    simp only [sqB, kfN]
    rw [sqB_bits s hs k, permB_bits _ (kfN_length s hs k)]
theorem outB_bits (s : Bs) (hs : s.length = 200) (r : Nat) : ∀ k, outB (bitsB s) (8 * r) k = bitsB (outY s r k)
  | 0 => bitsB_take s r
  | k + 1 => by
    simp only [outB, outY]
    rw [outB_bits s hs r k, sqB_bits s hs, bitsB_take, bitsB_append]
theorem squeeze_blocks (d : Dg) (hd : d.a.length = 200) (hn : d.n = 0) (h0 : 0 < d.rate) (hr : d.rate ≤ 168) : ∀ k, squeeze ((k + 1) * d.rate) d = (outY d.a d.rate k, { d with a := kfN d.a k, n := d.rate })
  | 0 => by
    rw [Nat.zero_add, Nat.one_mul, squeeze_piece _ _ ⟨hd, by omega, h0, hr⟩ (by omega) (by omega), hn]
    simp [outY, kfN]
  | k + 1 => by
    rw [Nat.succ_mul (k + 1), squeeze_add, squeeze_blocks d hd hn h0 hr k]
    simp only [outY]
    have h1 : ∀ j, 0 < j → j ≤ d.rate → squeeze j { d with a := kfN d.a k, n := d.rate } = squeeze j { d with a := kf (kfN d.a k), n := 0 } := fun j hj _ => by
      obtain ⟨j, rfl⟩ : ∃ i, j = i + 1 := ⟨j - 1, by omega⟩
      have e1 : squeeze1 ({ d with a := kfN d.a k, n := d.rate } : Dg) = { d with a := kf (kfN d.a k), n := 0 } := by
        unfold squeeze1
        rw [if_pos rfl]
        rfl
      have e2 : squeeze1 ({ d with a := kf (kfN d.a k), n := 0 } : Dg) = { d with a := kf (kfN d.a k), n := 0 } := by
        unfold squeeze1
        rw [if_neg (by show ¬ 0 = d.rate; omega)]
      simp only [squeeze, e1, e2]
    rw [h1 d.rate h0 (Nat.le_refl _), squeeze_piece d.rate { d with a := kf (kfN d.a k), n := 0 } ⟨kf_length _, Nat.zero_le _, h0, hr⟩ (by show 0 + d.rate ≤ d.rate; omega) h0]
    simp [kfN]
theorem squeeze_take (d : Dg) (j k : Nat) (h : j ≤ k) : (squeeze j d).1 = (squeeze k d).1.take j := by
  obtain ⟨m, rfl⟩ : ∃ m, k = j + m := ⟨k - j, by omega⟩
  rw [squeeze_add]
  simp only
  rw [List.take_left' (squeeze_length j d)]
theorem outN_enough (r L : Nat) (h0 : 0 < r) : L ≤ (outN (8 * r) (8 * L) + 1) * r := by
  unfold outN
  by_cases hL : L = 0
  · omega
  · have h := Nat.lt_div_mul_add (a := 8 * L - 1) (show 0 < 8 * r by omega)
    generalize (8 * L - 1) / (8 * r) = q at h
    have e : q * (8 * r) + 8 * r = 8 * ((q + 1) * r) := by rw [Nat.mul_left_comm 8, Nat.add_mul q 1, Nat.one_mul]
    omega
/-- the reference's output, as bits, is that of the library's sponge -/
theorem spongeB_xof {ds : UInt8} {t : Bits} (h : Dom ds t) (data : Bs) (r out L : Nat) (h0 : 0 < r) (hr : r ≤ 168) : spongeB (bitsB data ++ t) (8 * r) (8 * L) = bitsB (xof r out ds data L) := by
  obtain ⟨P, hP⟩ : ∃ P, P = data ++ padY ds (r - data.length % r) := ⟨_, rfl⟩
  have hmod := Nat.mod_lt data.length h0
  have hdm := Nat.div_add_mod data.length r
  have hpl := padY_length ds (r - data.length % r) (by omega)
  have hPl : P.length = (data.length / r + 1) * r := by rw [hP, List.length_append, hpl, Nat.succ_mul, Nat.mul_comm (data.length / r)]; omega
  unfold spongeB
  rw [padB_bits h data r h0, ← hP, bitsB_length, hPl, show 8 * ((data.length / r + 1) * r) / (8 * r) = data.length / r + 1 by rw [Nat.mul_left_comm, Nat.mul_div_cancel _ (by omega)]]
  rw [absB_bits P r hr _ (by rw [hPl]; exact Nat.le_refl _), outB_bits _ (absY_length _ _ _), bitsB_take]
  congr 1
  unfold xof
  rw [pad_state data r out ds h0 hr, ← hP, squeeze_take _ L _ (outN_enough r L h0)]
  have := squeeze_blocks ({ newD r out ds with a := absY P r (data.length / r + 1), st := 1 } : Dg) (absY_length _ _ _) rfl h0 hr (outN (8 * r) (8 * L))
  rw [show ({ newD r out ds with a := absY P r (data.length / r + 1), st := 1 } : Dg).rate = r from rfl] at this
  rw [this]
end Go.Sha
end

section
namespace Go.Proofs.Ytfgfhdkedmgfiaa
open Go.ChangeShapes Go.WideShapes Go.ChangeAt Go.RowKit Go.Sha

set_option maxHeartbeats 1000000 in
theorem squeezed_any (ad : Option Addr) (nd cd : Nat) (data : Bs) (a1 : Option Addr) (nt ct : Nat) (t : Bits) (ds : UInt8) (r out L : Nat) (w : World) (hS : Sl w ad nd cd data) (hT : SlB w a1 nt ct t) (hD : Dom ds t) (h0 : 0 < r) (hr : r ≤ 168) (hn : 8 * nd + 2000 ≤ 140737488355328) (hL : L ≤ 1099511627776) :
    Calls Try.prog 72 #[.slice ad nd cd, .slice a1 nt ct, .int .i64 (r : Int), .int .i64 (L : Int)] w (RetO 5 (xof r out ds data L) w) := by
  obtain ⟨i0, hi, hz0, hz1, hz2⟩ := info_parts info4
  have hnt : nt ≤ 6 := by rw [← hT.len]; exact hD.len
  have HT := Lib.hid hT
  have HS := Lib.hid hS
  have HD := Lib.hid hD
  clear hT hS hD
  go_enter Try.func72, Try.ntmps72
  go_wp2_with fail
  refine (bitsOf_any _ _ _ _ _ HS.out (by omega)).mono ?_
  rintro e w1 ⟨a2, c2, rfl, O1, f1⟩
  obtain ⟨n2, hn2⟩ : ∃ n2, n2 = (bitsB data).length := ⟨_, rfl⟩
  have hn2b : n2 ≤ 8 * nd := by rw [hn2, bitsB_length, HS.out.len]; omega
  rw [← hn2]
  have O2 : Hid (w1.ownsRow w.heap.size 4 1 (.slice a2 n2 c2) n2 ((bitsB data).map Value.bool)) := OwB.row O1 hn2.symm
  have HN := Lib.hid hn2
  obtain ⟨xs, hxs⟩ : ∃ xs, xs = (bitsB data).map Value.bool := ⟨_, rfl⟩
  rw [← hxs] at O2
  obtain ⟨ys, hys⟩ : ∃ ys, ys = t.map Value.bool := ⟨_, rfl⟩
  have Y0 : Hid (Src Try.prog 1 99 (.slice a1 nt ct) nt ys w1) := by rw [hys]; exact (HT.out.keep0 f1).src Try.underlying99
  have HX := Lib.hid (And.intro hxs hys)
  have X1 : Hid (n2 + nt ≤ maxLen) := by show _ ≤ _; unfold maxLen; omega
  have X2 : Hid ((n2 + nt) * 1 ≤ 140737488355328) := by show _ ≤ _; omega
  have X3 : Hid (w.heap.size ≤ w1.heap.size) := f1.size
  have HB : Hid (∀ x, a2 = some x → w.heap.size ≤ x.block) := fun x hx => by subst hx; exact O1.block.2.2.1
  clear hxs hys O1 hn2
  go_wp2_with (at_builtin; refine wpList_append_src _ rfl _ _ 99 99 rfl w.heap.size 4 i0 (.bool false) 1 1 Try.underlying99 hi hz0 hz1 hz2 rfl a2 n2 c2 xs rfl O2.out _ nt ys rfl Y0.out X1.out X2.out X3.out ?_)
  intro a3 c3 w3 ho hg
  have F3 : Fr [] w w3 := f1.grown hg (fun q hq => by
    cases a2 with
    | none => simp [Value.ownBlock] at hq
    | some ad =>
      have := HB.out ad rfl
      simp [Value.ownBlock] at hq
      omega)
  have hl3 : (bitsB data ++ t).length = n2 + nt := by rw [List.length_append, HN.out, HT.out.len]
  have O3 : OwB w3 w.heap.size 4 a3 c3 (bitsB data ++ t) := OwB.of ho hl3.symm (by rw [HX.out.1, HX.out.2, List.map_append])
  have S3 := Lib.hid (O3.sl_at hl3)
  clear ho hg O3 hl3 O2 Y0 X1 X2 X3 HB HX
  have g1 : IntKind.i64.wrap (8 * (r : Int)) = ((8 * r : Nat) : Int) := by rw [show 8 * (r : Int) = ((8 * r : Nat) : Int) by omega]; exact IntWalk.i64_in _ (by omega)
  have g2 : IntKind.i64.wrap (8 * (L : Int)) = ((8 * L : Nat) : Int) := by rw [show 8 * (L : Int) = ((8 * L : Nat) : Int) by omega]; exact IntWalk.i64_in _ (by omega)
  go_wp2_with fail
  have HC : Hid (Calls Try.prog 93 #[.slice a3 (n2 + nt) c3, .int .i64 (8 * (r : Int)), .int .i64 (8 * (L : Int))] w3 (RetX' w3 (8 * L) (bitsB (xof r out ds data L)))) := by
    have := sponge_any a3 (n2 + nt) c3 (bitsB data ++ t) (8 * r) (8 * L) w3 S3.out (by omega) (by omega) (by omega) (by omega)
    rw [spongeB_xof HD.out data r out L h0 hr] at this
    rwa [show ((8 * r : Nat) : Int) = 8 * (r : Int) by omega, show ((8 * L : Nat) : Int) = 8 * (L : Int) by omega] at this
  refine (HC.out).mono ?_
  rintro e w4 ⟨a4, c4, rfl, O4, f4⟩
  have hl4 : (bitsB (xof r out ds data L)).length = 8 * L := by rw [bitsB_length, xof_length]
  have S4 := Lib.hid (O4.sl_at hl4)
  clear O4 hl4 HC S3 g1 g2
  go_wp2_with fail
  refine (bytesOf_any _ _ _ _ _ S4.out (by omega)).mono ?_
  rintro e w5 ⟨a5, c5, rfl, O5, f5⟩
  have H5 := Lib.hid O5
  clear O5
  go_wp2_with fail
  go_ret
  refine ⟨a5, c5, rfl, H5.out.mono (Nat.le_trans F3.size f4.size), (F3.trans f4).trans f5⟩

theorem digest_any (ad : Option Addr) (nd cd : Nat) (data : Bs) (size : Nat) (w : World) (hS : Sl w ad nd cd data) (h0 : 16 ≤ size) (hr : size ≤ 99) (hn : 8 * nd + 2000 ≤ 140737488355328) :
    Calls Try.prog 40 #[.slice ad nd cd, .int .i64 (size : Int)] w (RetO 5 (xof (200 - 2 * size) size 6 data size) w) := by
  have f1 : Fr [] w (w.alloc (.cells #[.bool false, .bool true] 4)) := (Fr.refl _ _).alloc _
  have T1 := Lib.hid (SlB.of_cells (l := [false, true]) (Go.heap_alloc_new w (.cells #[.bool false, .bool true] 4)) (by decide))
  have S1 := Lib.hid (hS.keep0 f1)
  clear hS
  go_enter Try.func40, Try.ntmps40
  go_wp2_with fail
  have HC : Hid (Calls Try.prog 72 #[.slice ad nd cd, .slice (some ⟨w.heap.size, 0, none⟩) 2 2, .int .i64 (200 - 2 * (size : Int)), .int .i64 (size : Int)] (w.alloc (.cells #[.bool false, .bool true] 4)) (RetO 5 (xof (200 - 2 * size) size 6 data size) (w.alloc (.cells #[.bool false, .bool true] 4)))) := by
    have := squeezed_any _ _ _ data _ 2 2 [false, true] 6 (200 - 2 * size) size size _ S1.out T1.out dom_sha (by omega) (by omega) hn (by omega)
    rwa [show ((200 - 2 * size : Nat) : Int) = 200 - 2 * (size : Int) by omega] at this
  refine (HC.out).mono ?_
  rintro e w2 ⟨a2, c2, rfl, O2, f2⟩
  have H2 := Lib.hid O2
  clear O2
  go_wp2_with fail
  go_ret
  exact ⟨a2, c2, rfl, H2.out.mono (by simp), f1.trans f2⟩







end Go.Proofs.Ytfgfhdkedmgfiaa
end
