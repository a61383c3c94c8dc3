/- bitsOf and bytesOf of the reference. Lengths whose bits a machine's addresses can tell apart. -/
import Derived.Test.YthlknckmhjnkjaaRc
namespace Go.Sha
open Go.RowKit
def byteBits (b : UInt8) : Bits := (List.range 8).map fun k => b.toNat.testBit k
def bitsB (l : Bs) : Bits := l.flatMap byteBits
theorem byteBits_length (b : UInt8) : (byteBits b).length = 8 := by simp [byteBits]
theorem bitsB_length (l : Bs) : (bitsB l).length = 8 * l.length := by
  induction l with
  | nil => rfl
  | cons x l ih =>
    have e : bitsB (x :: l) = byteBits x ++ bitsB l := rfl
    rw [e, List.length_append, ih, byteBits_length, List.length_cons]
    omega
theorem bitsB_snoc (l : Bs) (x : UInt8) : bitsB (l ++ [x]) = bitsB l ++ byteBits x := by simp [bitsB]
theorem byteBits_take_succ (b : UInt8) (k : Nat) (h : k < 8) : (byteBits b).take (k + 1) = (byteBits b).take k ++ [b.toNat.testBit k] := by
  rw [List.take_succ_eq_append_getElem (by rw [byteBits_length]; exact h)]
  simp [byteBits]
theorem take_snoc (l : Bs) (k : Nat) (h : k < l.length) : l.take (k + 1) = l.take k ++ [l.getD k 0] := by
  rw [List.take_succ_eq_append_getElem h, getD_at l k h]
/-- a slice of bools of its own is handed back that reads as l -/
def RetOB (t : Nat) (l : Bits) (w : World) (e : Ending) (w' : World) : Prop := ∃ a c, e = .returned (.slice a l.length c) ∧ OwB w' w.heap.size t a c l ∧ Fr [] w w'
end Go.Sha
namespace Go.Proofs.Ythlknckmhjnkjaa
open Go.ChangeShapes Go.WideShapes Go.ChangeAt Go.RowKit Go.Sha
/-- the bits done so far -/
def BiRel (w : World) (L : Bits) (v : Value) (wr : World) : Prop := ∃ a n c, v = .slice a n c ∧ L.length = n ∧ OwB wr w.heap.size 4 a c L ∧ Fr [] w wr
def BoRel (w : World) (l : Bs) (v i : Value) (wr : World) : Prop := ∃ k : Nat, k ≤ l.length ∧ i = .int .i64 k ∧ BiRel w (bitsB (l.take k)) v wr
def BkRel (w : World) (L : Bits) (x : UInt8) (v j : Value) (wr : World) : Prop := ∃ k : Nat, k ≤ 8 ∧ j = .int .i64 k ∧ BiRel w (L ++ (byteBits x).take k) v wr
/-- one bit appended to a row of one's own -/
theorem OwB.row {w : World} {base e n c : Nat} {a : Option Addr} {l : Bits} (h : OwB w base e a c l) (hn : l.length = n) : w.ownsRow base e 1 (.slice a n c) n (l.map Value.bool) := by subst hn; exact h
theorem BiRel.grown {w wr w1 : World} {L : Bits} {v : Bool} {a a' : Option Addr} {n c c' : Nat} (hL : L.length = n) {xs : List Value} (hxs : xs = L.map Value.bool) (hf : Fr [] w wr) (ho : w1.ownsRow w.heap.size 4 1 (.slice a' (n + 1) c') (n + 1) (xs ++ [.bool v])) (hO : OwB wr w.heap.size 4 a c L) (hg : (wr.alloc (.cells #[.bool v] 4)).grownBy w1 (Value.slice a n c).ownBlock) :
    BiRel w (L ++ [v]) (.slice a' (n + 1) c') w1 := by
  subst hxs
  refine ⟨a', n + 1, c', rfl, by simp [hL], OwB.of ho (by simp [hL]) (by simp), ?_⟩
  refine (hf.alloc _).grown hg (fun q hq => .inl ?_)
  cases a with
  | none => simp [Value.ownBlock] at hq
  | some ad =>
    have := hO.block
    simp [Value.ownBlock] at hq
    omega
theorem shr_bit (x : UInt8) (j : Nat) : (bits BinOp.and IntKind.u8 ((x.toNat : Int) / 2 ^ j) 1 == 1) = x.toNat.testBit j := by
  have h1 : ((x.toNat : Int) / 2 ^ j) = ((x.toNat / 2 ^ j : Nat) : Int) := by simp
  have h2 : x.toNat / 2 ^ j < 256 := Nat.lt_of_le_of_lt (Nat.div_le_self _ _) x.toNat_lt
  rw [h1, Nat.testBit_eq_decide_div_mod_eq]
  generalize x.toNat / 2 ^ j = m at h2
  have h3 : ∀ m, m < 256 → (bits BinOp.and IntKind.u8 ((m : Nat) : Int) 1 == 1) = decide (m % 2 = 1) := by decide +kernel
  exact h3 m h2

set_option maxRecDepth 100000 in
set_option maxHeartbeats 1000000 in
theorem bitsOf_any (a0 : Option Addr) (n c : Nat) (l : Bs) (w : World) (h : Sl w a0 n c l) (hn : 8 * n ≤ 140737488355328) :
    Calls Try.prog 52 #[.slice a0 n c] w (RetOB 4 (bitsB l) w) := by
  obtain ⟨i0, hi, hz0, hz1, hz2⟩ := info_parts info4
  have hlen := Lib.hid h.len
  have hc := h.cap
  have hm := h.max
  unfold maxLen at hm
  have HS := Lib.hid h
  clear h
  go_enter Try.func52, Try.ntmps52
  go_wp2_with fail
  go_loopw [3, 9] (fun v i wr => BoRel w l v i wr) (fun _ i _ => n - (intOf i).toNat)
  case atStart => exact ⟨0, by omega, rfl, none, 0, 0, rfl, rfl, OwB.nil _ _ _, Fr.refl _ _⟩
  case round =>
    obtain ⟨k, hk, rfl, a1, n1, c1, rfl, hn1, hO, hf⟩ := hrel
    rw [hlen.out] at hk
    have HN1 := Lib.hid hn1
    clear hn1
    by_cases hlt : k < n
    · have S1 := HS.out.keep0 hf
      obtain ⟨b, o, rfl, hcel⟩ : ∃ b o, a0 = some ⟨b, o, none⟩ ∧ ∀ i, i < n → wr.cell? ⟨b, o + i, none⟩ = some (.int .u8 (l.getD i 0).toNat) := by
        rcases S1.cel with h0 | h0
        · omega
        · exact h0
      have q0 := hcel k hlt
      clear hcel S1
      obtain ⟨x, hx⟩ : ∃ x, x = l.getD k 0 := ⟨_, rfl⟩
      rw [← hx] at q0
      have HX := Lib.hid hx
      clear hx
      obtain ⟨L, hL⟩ : ∃ L, L = bitsB (l.take k) := ⟨_, rfl⟩
      rw [← hL] at hO HN1
      have hLl : L.length = 8 * k := by rw [hL, bitsB_length, List.length_take, hlen.out]; omega
      have HL := Lib.hid hL
      have HLl := Lib.hid hLl
      have HO := Lib.hid hO
      clear hL hO hLl
      go_wp2_with fail
      go_loopw [3, 6] (fun v j wr => BkRel w L x v j wr) (fun _ j _ => 8 - (intOf j).toNat)
      case atStart => exact ⟨0, by omega, rfl, a1, n1, c1, rfl, by simpa using HN1.out, by simpa using HO.out, hf⟩
      case round =>
        clear HO hf q0
        obtain ⟨j, hj, rfl, a2, n2, c2, rfl, hn2, hO, hf⟩ := hrel
        have hd : n2 = 8 * k + j := by rw [← hn2, List.length_append, List.length_take, byteBits_length, HLl.out]; omega
        have HN2 := Lib.hid hn2
        have HO := Lib.hid hO
        clear hO hn2
        by_cases hlt2 : j < 8
        · have hn2b : n2 + 1 ≤ 140737488355328 := by omega
          clear hd
          obtain ⟨v, hv⟩ : ∃ v, v = x.toNat.testBit j := ⟨_, rfl⟩
          have hb : (bits BinOp.and IntKind.u8 ((x.toNat : Int) / 2 ^ j) 1 == 1) = v := by rw [hv]; exact shr_bit x j
          have hd : decide ((j : Int) < 8) = true := by simp; omega
          have HV := Lib.hid hv
          clear hv
          have f1 : Fr [] wr (wr.alloc (.cells #[.bool v] 4)) := (Fr.refl _ _).alloc _
          obtain ⟨xs, hxs⟩ : ∃ xs, xs = (L ++ (byteBits x).take j).map Value.bool := ⟨_, rfl⟩
          have O1 : Hid ((wr.alloc (.cells #[.bool v] 4)).ownsRow w.heap.size 4 1 (.slice a2 n2 c2) n2 xs) := by rw [hxs]; exact OwB.row (HO.out.keep0 f1) HN2.out
          have HXS := Lib.hid hxs
          clear hxs
          have S1 := Lib.hid (SlB.one wr v 4)
          have hsz : w.heap.size ≤ (wr.alloc (.cells #[.bool v] 4)).heap.size := by simp; have := hf.size; omega
          clear f1
          go_wp2_with (at_builtin; refine wpList_append_src _ rfl _ _ 42 42 rfl w.heap.size 4 i0 (.bool false) 1 1 Try.underlying42 hi hz0 hz1 hz2 rfl a2 n2 c2 xs rfl O1.out _ 1 [.bool v] rfl (S1.out.src Try.underlying42) ?c1 ?c2 ?c3 ?_)
          case c1 => unfold maxLen; omega
          case c2 => omega
          case c3 => exact hsz
          intro a3 c3 w3 ho hg
          have R3 := BiRel.grown HN2.out HXS.out hf ho HO.out hg
          clear ho hg O1 S1 hsz HO hf hb hd
          go_wp2_with fail
          refine ⟨⟨j + 1, by omega, by simp, ?_⟩, by simp [intOf]; omega⟩
          rw [byteBits_take_succ x j hlt2, ← HV.out, ← List.append_assoc]
          exact R3
        · obtain rfl : j = 8 := by omega
          clear hd
          have hd : decide (((8 : Nat) : Int) < 8) = false := by simp
          go_wp2_with fail
          refine ⟨⟨k + 1, by rw [hlen.out]; omega, by simp, a2, n2, c2, rfl, ?_, ?_, hf⟩, by simp [intOf]; omega⟩
          · rw [← HN2.out, take_snoc l k (by rw [hlen.out]; exact hlt), bitsB_snoc, ← HX.out, ← HL.out, List.take_of_length_le (by rw [byteBits_length]; omega)]
          · rw [take_snoc l k (by rw [hlen.out]; exact hlt), bitsB_snoc, ← HX.out, ← HL.out]
            have := HO.out
            rwa [List.take_of_length_le (by rw [byteBits_length]; omega)] at this
    · obtain rfl : k = n := by omega
      rw [List.take_of_length_le (by rw [hlen.out]; exact Nat.le_refl _)] at hO HN1
      have HO := Lib.hid hO
      clear hO
      go_wp2_with fail
      go_ret
      refine ⟨a1, c1, ?_, HO.out, hf⟩
      rw [HN1.out]
      rfl
end Go.Proofs.Ythlknckmhjnkjaa
