/- bytesOf of the reference, on the bits of bytes. Lengths whose bits a machine's addresses can tell apart. -/
import Derived.Test.YthlknckmhjnkjaaBitsOf
namespace Go.Sha
open Go.RowKit
theorem bitsB_getD (l : Bs) (k j : Nat) (hk : k < l.length) (hj : j < 8) : (bitsB l).getD (8 * k + j) false = (l.getD k 0).toNat.testBit j := by
  induction l generalizing k with
  | nil => simp at hk
  | cons x l ih =>
    have e : bitsB (x :: l) = byteBits x ++ bitsB l := rfl
    rw [e]
    simp only [List.getD_eq_getElem?_getD] at ih ⊢
    cases k with
    | zero =>
      rw [List.getElem?_append_left (by rw [byteBits_length]; omega)]
      simp [byteBits, hj]
    | succ k =>
      simp only [List.length_cons] at hk
      rw [List.getElem?_append_right (by rw [byteBits_length]; omega), byteBits_length, show 8 * (k + 1) + j - 8 = 8 * k + j by omega, ih k (by omega)]
      simp
theorem or_bit : ∀ x, x < 256 → ∀ j, j < 8 → bits BinOp.or IntKind.u8 ((x % 2 ^ j : Nat) : Int) ((2 ^ j : Nat) : Int) = ((if x.testBit j then x % 2 ^ (j + 1) else x % 2 ^ j + 2 ^ j : Nat) : Int) := by decide +kernel
theorem shl8 : ∀ j, j < 8 → ((2 : Int) ^ j % 256) = ((2 ^ j : Nat) : Int) := by decide +kernel
theorem or_yes (x : UInt8) (j : Nat) (hj : j < 8) (h : x.toNat.testBit j = true) : bits BinOp.or IntKind.u8 ((x.toNat % 2 ^ j : Nat) : Int) ((2 ^ j : Nat) : Int) = ((x.toNat % 2 ^ (j + 1) : Nat) : Int) := by
  rw [or_bit x.toNat x.toNat_lt j hj, if_pos h]
theorem mod_no (x j : Nat) (h : x.testBit j = false) : x % 2 ^ (j + 1) = x % 2 ^ j := by
  rw [Nat.testBit_eq_decide_div_mod_eq] at h
  simp only [decide_eq_false_iff_not] at h
  rw [Nat.pow_succ, Nat.mod_mul, show x / 2 ^ j % 2 = 0 by omega]
  omega
end Go.Sha
namespace Go.Proofs.Ythlknckmhjnkjaa
open Go.ChangeShapes Go.WideShapes Go.ChangeAt Go.RowKit Go.Sha
def YiRel (w : World) (L : Bs) (v : Value) (wr : World) : Prop := ∃ a n c, v = .slice a n c ∧ L.length = n ∧ Ow wr w.heap.size 5 a c L ∧ Fr [] w wr
def YoRel (w : World) (l : Bs) (v i : Value) (wr : World) : Prop := ∃ k : Nat, k ≤ l.length ∧ i = .int .i64 ((8 * k : Nat) : Int) ∧ YiRel w (l.take k) v wr
def YkRel (x : UInt8) (b j : Value) : Prop := ∃ k : Nat, k ≤ 8 ∧ j = .int .i64 k ∧ b = .int .u8 ((x.toNat % 2 ^ k : Nat) : Int)
theorem Ow.row {w : World} {base e n c : Nat} {a : Option Addr} {l : Bs} (h : Ow w base e a c l) (hn : l.length = n) : w.ownsRow base e 1 (.slice a n c) n (l.map bv) := by subst hn; exact h
theorem YiRel.grown {w wr w1 : World} {L : Bs} {v : UInt8} {a a' : Option Addr} {n c c' : Nat} (hL : L.length = n) {xs : List Value} (hxs : xs = L.map bv) (hf : Fr [] w wr) (ho : w1.ownsRow w.heap.size 5 1 (.slice a' (n + 1) c') (n + 1) (xs ++ [.int .u8 v.toNat])) (hO : Ow wr w.heap.size 5 a c L) (hg : (wr.alloc (.cells #[.int .u8 v.toNat] 5)).grownBy w1 (Value.slice a n c).ownBlock) :
    YiRel w (L ++ [v]) (.slice a' (n + 1) c') w1 := by
  subst hxs
  refine ⟨a', n + 1, c', rfl, by simp [hL], Ow.of ho (by simp [hL]) (by simp [bv]), ?_⟩
  refine (hf.alloc _).grown hg (fun q hq => .inl ?_)
  cases a with
  | none => simp [Value.ownBlock] at hq
  | some ad =>
    have := hO.block
    simp [Value.ownBlock] at hq
    omega

set_option maxRecDepth 100000 in
set_option maxHeartbeats 1000000 in
theorem bytesOf_any (a0 : Option Addr) (n c : Nat) (l : Bs) (w : World) (h : SlB w a0 n c (bitsB l)) (hn : n ≤ 140737488355328) :
    Calls Try.prog 50 #[.slice a0 n c] w (RetO 5 l w) := by
  obtain ⟨i0, hi, hz0, hz1, hz2⟩ := info_parts info5
  have hlen : n = 8 * l.length := by rw [← h.len, bitsB_length]
  obtain ⟨m, hm⟩ : ∃ m, m = l.length := ⟨_, rfl⟩
  rw [← hm] at hlen
  subst hlen
  have HM := Lib.hid hm
  clear hm
  have hc := h.cap
  have hmx := h.max
  unfold maxLen at hmx
  have HS := Lib.hid h
  clear h
  go_enter Try.func50, Try.ntmps50
  go_wp2_with fail
  go_loopw [3, 4] (fun v i wr => YoRel w l v i wr) (fun _ i _ => 8 * m - (intOf i).toNat)
  case atStart => exact ⟨0, by omega, rfl, none, 0, 0, rfl, rfl, Ow.nil _ _ _, Fr.refl _ _⟩
  case round =>
    obtain ⟨k, hk, rfl, a1, n1, c1, rfl, hn1, hO, hf⟩ := hrel
    rw [← HM.out] at hk
    have hn1k : n1 = k := by rw [← hn1, List.length_take, ← HM.out]; omega
    have HN1 := Lib.hid hn1
    clear hn1
    obtain ⟨i, hi8⟩ : ∃ i, i = 8 * k := ⟨_, rfl⟩
    rw [← hi8]
    have HI := Lib.hid hi8
    by_cases hlt : k < m
    · have S1 := HS.out.keep0 hf
      obtain ⟨b, o, rfl, hcel⟩ : ∃ b o, a0 = some ⟨b, o, none⟩ ∧ ∀ i, i < 8 * m → wr.cell? ⟨b, o + i, none⟩ = some (.bool ((bitsB l).getD i false)) := by
        rcases S1.cel with h0 | h0
        · omega
        · exact h0
      obtain ⟨x, hx⟩ : ∃ x, x = l.getD k 0 := ⟨_, rfl⟩
      have hcx : ∀ j, j < 8 → wr.cell? ⟨b, o + (i + j), none⟩ = some (.bool (x.toNat.testBit j)) := fun j hj => by
        rw [hcel (i + j) (by omega), hi8, bitsB_getD l k j (by rw [← HM.out]; exact hlt) hj, hx]
      have HC := Lib.hid hcx
      have HX := Lib.hid hx
      have HO := Lib.hid hO
      have hib : i + 8 ≤ 8 * m := by omega
      clear hx hcx hcel S1 hO hi8
      have hn1b : n1 + 1 ≤ 140737488355328 := by omega
      clear hn1k
      go_wp2_with fail
      go_loop [5, 6] (fun v j => YkRel x v j) (fun _ j => 8 - (intOf j).toNat)
      case atStart => exact ⟨0, by omega, rfl, by simp [Nat.mod_one]⟩
      case round =>
        obtain ⟨j, hj, rfl, rfl⟩ := hrel
        by_cases hlt2 : j < 8
        · have q0 := HC.out j hlt2
          have b1 : (i : Int) + (j : Int) < 8 * (m : Int) := by omega
          have hd : decide ((j : Int) < 8) = true := by simp; omega
          obtain ⟨t, ht⟩ : ∃ t, t = x.toNat.testBit j := ⟨_, rfl⟩
          rw [← ht] at q0
          have HT := Lib.hid ht
          clear ht
          cases t
          · go_wp2_with fail
            refine ⟨⟨j + 1, by omega, by simp, ?_⟩, by simp [intOf]; omega⟩
            rw [mod_no _ _ HT.out.symm]
          · go_wp2_with fail
            refine ⟨⟨j + 1, by omega, by simp, ?_⟩, by simp [intOf]; omega⟩
            rw [← or_yes x j hlt2 HT.out.symm, shl8 j hlt2]
            simp
        · obtain rfl : j = 8 := by omega
          have hx8 : x.toNat % 2 ^ 8 = x.toNat := Nat.mod_eq_of_lt x.toNat_lt
          rw [hx8]
          have hd : decide (((8 : Nat) : Int) < 8) = false := by simp
          have f1 : Fr [] wr (wr.alloc (.cells #[.int .u8 x.toNat] 5)) := (Fr.refl _ _).alloc _
          obtain ⟨xs, hxs⟩ : ∃ xs, xs = (l.take k).map bv := ⟨_, rfl⟩
          have O1 : Hid ((wr.alloc (.cells #[.int .u8 x.toNat] 5)).ownsRow w.heap.size 5 1 (.slice a1 n1 c1) n1 xs) := by rw [hxs]; exact Ow.row (HO.out.keep0 f1) HN1.out
          have HXS := Lib.hid hxs
          clear hxs hx8
          have S1 := Lib.hid (Sl.one wr x 5)
          have hsz : w.heap.size ≤ (wr.alloc (.cells #[.int .u8 x.toNat] 5)).heap.size := by simp; have := hf.size; omega
          clear f1
          go_wp2_with (at_builtin; refine wpList_append_src _ rfl _ _ 22 22 rfl w.heap.size 5 i0 (.int .u8 0) 1 1 Try.underlying22 hi hz0 hz1 hz2 rfl a1 n1 c1 xs rfl O1.out _ 1 [.int .u8 x.toNat] rfl (S1.out.src Try.underlying22) ?c1 ?c2 ?c3 ?_)
          case c1 => unfold maxLen; omega
          case c3 => have := hf.size; omega
          intro a3 c3 w3 ho hg
          have R3 := YiRel.grown HN1.out HXS.out hf ho HO.out hg
          clear ho hg O1 S1 hsz HO hf hd
          go_wp2_with fail
          refine ⟨⟨k + 1, by rw [← HM.out]; omega, by rw [HI.out]; simp; omega, ?_⟩, by simp [intOf]; omega⟩
          rw [take_snoc l k (by rw [← HM.out]; exact hlt), ← HX.out]
          exact R3
    · obtain rfl : k = m := by omega
      rw [List.take_of_length_le (by rw [HM.out]; exact Nat.le_refl _)] at hO HN1
      have HO := Lib.hid hO
      clear hO hn1k
      go_wp2_with fail
      go_ret
      refine ⟨a1, c1, ?_, HO.out, hf⟩
      rw [HN1.out]
      rfl
end Go.Proofs.Ythlknckmhjnkjaa
