/- The reference's sponge over bits is the library's over bytes. Plain; no condition but that the rate is 1 to 168 bytes. -/
import Derived.Test.YthlknckmhjnkjaaKecB
import Derived.Test.YthlknckmhjnkjaaSponge
import Derived.Test.YthlknckmhjnkjaaSumS
namespace Go.Sha

theorem ext_getD {α : Type} (d : α) {l m : List α} (h : l.length = m.length) (hg : ∀ i, i < l.length → l.getD i d = m.getD i d) : l = m := by
  apply List.ext_getElem h
  intro i h1 h2
  have := hg i h1
  simpa [List.getD_eq_getElem?_getD, List.getElem?_eq_getElem h1, List.getElem?_eq_getElem h2] using this
theorem bitsB_at (l : Bs) (i : Nat) (h : i < 8 * l.length) : (bitsB l).getD i false = (l.getD (i / 8) 0).toNat.testBit (i % 8) := by
  have := bitsB_getD l (i / 8) (i % 8) (by omega) (by omega)
  rwa [show 8 * (i / 8) + i % 8 = i by omega] at this
theorem bitsB_append (l m : Bs) : bitsB (l ++ m) = bitsB l ++ bitsB m := by simp [bitsB]
theorem bitsB_take (l : Bs) (k : Nat) : (bitsB l).take (8 * k) = bitsB (l.take k) := by
  by_cases h : k ≤ l.length
  · conv => lhs; rw [← List.take_append_drop k l, bitsB_append]
    rw [List.take_left' (by rw [bitsB_length]; simp; omega)]
  · rw [List.take_of_length_le (by rw [bitsB_length]; omega), List.take_of_length_le (by omega)]
theorem getD_set_eq {α : Type} (l : List α) (i j : Nat) (v d : α) : (l.set i v).getD j d = if i = j ∧ i < l.length then v else l.getD j d := by
  simp only [List.getD_eq_getElem?_getD, List.getElem?_set]
  by_cases h : i = j
  · subst h
    by_cases h2 : i < l.length
    · simp [h2]
    · simp [h2]
  · simp [h]
theorem xorK_getD (s p : Bits) (i k j : Nat) (hj : j < s.length) : (xorK s p i k).getD j false = if j < k then (s.getD j false != p.getD (i + j) false) else s.getD j false := by
  induction k with
  | zero => rfl
  | succ k ih =>
    simp only [xorK]
    rw [getD_set_eq]
    by_cases h : k = j
    · subst h
      rw [if_pos ⟨rfl, by rw [xorK_length]; exact hj⟩, if_pos (by omega), ih, if_neg (by omega)]
    · rw [if_neg (fun e => h e.1), ih]
      by_cases h2 : j < k
      · rw [if_pos h2, if_pos (by omega)]
      · rw [if_neg h2, if_neg (by omega)]
theorem xorAt_getD (a p : Bs) (i j : Nat) (h : i + p.length ≤ a.length) : (xorAt a i p).getD j 0 = if i ≤ j ∧ j < i + p.length then a.getD j 0 ^^^ p.getD (j - i) 0 else a.getD j 0 := by
  unfold xorAt
  have hz : (List.zipWith (· ^^^ ·) (a.drop i) p).length = p.length := by simp; omega
  have ht : (a.take i).length = i := by simp; omega
  simp only [List.getD_eq_getElem?_getD]
  by_cases h1 : j < i
  · rw [if_neg (by omega), List.getElem?_append_left (by rw [List.length_append, ht, hz]; omega), List.getElem?_append_left (by omega), List.getElem?_take_of_lt h1]
  · by_cases h2 : j < i + p.length
    · rw [if_pos ⟨by omega, h2⟩, List.getElem?_append_left (by rw [List.length_append, ht, hz]; omega), List.getElem?_append_right (by omega), ht]
      have e1 : a[j]? = some a[j] := List.getElem?_eq_getElem (by omega)
      have e2 : p[j - i]? = some p[j - i] := List.getElem?_eq_getElem (by omega)
      rw [List.getElem?_zipWith, List.getElem?_drop, show i + (j - i) = j by omega, e1, e2]
      rfl
    · rw [if_neg (by omega), List.getElem?_append_right (by rw [List.length_append, ht, hz]; omega), List.length_append, ht, hz, List.getElem?_drop, show i + p.length + (j - (i + p.length)) = j by omega]

/-- m blocks of bytes absorbed -/
def absY (P : Bs) (r : Nat) : Nat → Bs
  | 0 => List.replicate 200 0
  | m + 1 => kf (xorAt (absY P r m) 0 ((P.drop (m * r)).take r))
theorem absY_length (P : Bs) (r m : Nat) : (absY P r m).length = 200 := by
  cases m with
  | zero => exact List.length_replicate
  | succ m => exact kf_length _
theorem bits_zero : bitsB (List.replicate 200 0) = List.replicate 1600 false := by decide +kernel
theorem blk_length (P : Bs) (r m : Nat) (h : (m + 1) * r ≤ P.length) : ((P.drop (m * r)).take r).length = r := by
  rw [Nat.succ_mul] at h
  simp
  omega
theorem absB_bits (P : Bs) (r : Nat) (hr : r ≤ 168) : ∀ m, m * r ≤ P.length → absB (bitsB P) (8 * r) m = bitsB (absY P r m)
  | 0, _ => by simp only [absB, absY]; exact bits_zero.symm
  | m + 1, h => by
    have hm : m * r + r ≤ P.length := by rw [Nat.succ_mul] at h; exact h
    simp only [absB, absY]
    rw [absB_bits P r hr m (by omega)]
    have hl := blk_length P r m h
    have ha := absY_length P r m
    have e : xorK (bitsB (absY P r m)) (bitsB P) (m * (8 * r)) (8 * r) = bitsB (xorAt (absY P r m) 0 ((P.drop (m * r)).take r)) := by
      refine ext_getD false (by rw [xorK_length, bitsB_length, bitsB_length, xorAt_length _ _ _ (by omega)]) (fun i hi => ?_)
      rw [xorK_length, bitsB_length, ha] at hi
      rw [xorK_getD _ _ _ _ _ (by rw [bitsB_length, ha]; exact hi), bitsB_at (absY P r m) i (by omega), bitsB_at (xorAt (absY P r m) 0 _) i (by rw [xorAt_length _ _ _ (by omega)]; omega), xorAt_getD _ _ _ _ (by omega), hl]
      by_cases h1 : i < 8 * r
      · rw [if_pos h1, if_pos (by omega), show m * (8 * r) = 8 * (m * r) by rw [Nat.mul_left_comm], bitsB_at _ _ (by omega), show (8 * (m * r) + i) / 8 = m * r + i / 8 by omega, show (8 * (m * r) + i) % 8 = i % 8 by omega, UInt8.toNat_xor, Nat.testBit_xor, bne_xor]
        congr 3
        rw [Nat.sub_zero, List.getD_eq_getElem?_getD, List.getD_eq_getElem?_getD, List.getElem?_take_of_lt (by omega), List.getElem?_drop]
      · rw [if_neg h1, if_neg (by omega)]
    rw [e, permB_bits _ (by rw [xorAt_length _ _ _ (by omega)]; exact ha)]

/-- what lies behind the bytes: the byte of domain and the padding, q bytes in all -/
def padY (ds : UInt8) : Nat → Bs
  | 0 => []
  | 1 => [ds ^^^ 128]
  | q + 2 => ds :: List.replicate q 0 ++ [128]
theorem padY_length (ds : UInt8) (q : Nat) (h : 0 < q) : (padY ds q).length = q := by
  match q, h with
  | 1, _ => rfl
  | q + 2, _ => simp [padY]
structure Dom (ds : UInt8) (t : Bits) : Prop where
  len : t.length ≤ 6
  more : byteBits ds = t ++ [true] ++ List.replicate (7 - t.length) false
  one : byteBits (ds ^^^ 128) = t ++ [true] ++ List.replicate (6 - t.length) false ++ [true]
theorem dom_sha : Dom 6 [false, true] := ⟨by decide, by decide, by decide⟩
theorem dom_shake : Dom 31 [true, true, true, true] := ⟨by decide, by decide, by decide⟩
theorem dom_cshake : Dom 4 [false, false] := ⟨by decide, by decide, by decide⟩
theorem bits_zeros (q : Nat) : bitsB (List.replicate q 0) = List.replicate (8 * q) false := by
  induction q with
  | zero => rfl
  | succ q ih =>
    have e : bitsB (List.replicate (q + 1) 0) = byteBits 0 ++ bitsB (List.replicate q 0) := rfl
    rw [e, ih, show byteBits 0 = List.replicate 8 false by decide, List.replicate_append_replicate]
    congr 1
    omega
theorem padY_bits {ds : UInt8} {t : Bits} (h : Dom ds t) (q : Nat) (hq : 0 < q) : bitsB (padY ds q) = t ++ [true] ++ List.replicate (8 * q - t.length - 2) false ++ [true] := by
  have h1 := h.len
  match q, hq with
  | 1, _ =>
    show byteBits (ds ^^^ 128) ++ [] = _
    rw [List.append_nil, h.one]
    congr 3
    omega
  | q + 2, _ =>
    show bitsB (ds :: List.replicate q 0 ++ [128]) = _
    rw [bitsB_append]
    have e1 : bitsB (ds :: List.replicate q 0) = byteBits ds ++ bitsB (List.replicate q 0) := rfl
    have e2 : bitsB [128] = List.replicate 7 false ++ [true] := by decide
    rw [e1, e2, h.more, bits_zeros]
    simp only [List.append_assoc]
    congr 2
    rw [← List.append_assoc (List.replicate (7 - t.length) false), List.replicate_append_replicate, ← List.append_assoc (List.replicate _ false), List.replicate_append_replicate]
    congr 2
    omega
theorem padZ_val (n t r : Nat) (ht : t ≤ 6) (hr : 0 < r) : padZ (8 * n + t) (8 * r) = 8 * (r - n % r) - t - 2 := by
  have h1 : n % r < r := Nat.mod_lt _ hr
  have h2 := Nat.div_add_mod n r
  obtain ⟨q, hq⟩ : ∃ q, q = n / r := ⟨_, rfl⟩
  obtain ⟨m, hm⟩ : ∃ m, m = n % r := ⟨_, rfl⟩
  obtain ⟨rq, hrq⟩ : ∃ rq, rq = r * q := ⟨_, rfl⟩
  rw [← hq, ← hm, ← hrq] at h2
  rw [← hm] at h1 ⊢
  have e : (-(((8 * n + t : Nat)) : Int) - 2) % (((8 * r : Nat)) : Int) = ((8 * (r - m) - t - 2 : Nat) : Int) := by
    have e1 : (-(((8 * n + t : Nat)) : Int) - 2) = ((8 * (r - m) - t - 2 : Nat) : Int) + ((8 * r : Nat) : Int) * (-((q : Int) + 1)) := by
      rw [Int.mul_neg, Int.mul_add, Int.mul_one]
      have e2 : ((8 * r : Nat) : Int) * (q : Int) = 8 * (rq : Int) := by
        rw [hrq]; push_cast; rw [Int.mul_assoc]
      rw [e2]
      omega
    rw [e1, Int.add_mul_emod_self_left, Int.emod_eq_of_lt (by omega) (by omega)]
  unfold padZ
  rw [e]
  rfl
theorem padB_bits {ds : UInt8} {t : Bits} (h : Dom ds t) (data : Bs) (r : Nat) (hr : 0 < r) : padB (bitsB data ++ t) (8 * r) = bitsB (data ++ padY ds (r - data.length % r)) := by
  have h1 : data.length % r < r := Nat.mod_lt _ hr
  unfold padB
  rw [List.length_append, bitsB_length, padZ_val _ _ _ h.len hr, bitsB_append, padY_bits h _ (by omega)]
  simp only [List.append_assoc]
end Go.Sha
