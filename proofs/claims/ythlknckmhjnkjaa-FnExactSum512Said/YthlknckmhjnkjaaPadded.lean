/- padded of the reference. Lengths that a machine's addresses can tell apart. -/
import Derived.Test.YthlknckmhjnkjaaBitsOf
import Derived.Test.YthlknckmhjnkjaaMod
namespace Go.Sha
open Go.RowKit
/-- how many bits 0 lie between the two bits 1 -/
def padZ (n rate : Nat) : Nat := ((-(n : Int) - 2) % (rate : Int)).toNat
def padB (l : Bits) (rate : Nat) : Bits := l ++ [true] ++ List.replicate (padZ l.length rate) false ++ [true]
theorem padZ_lt (n rate : Nat) (h : 0 < rate) : padZ n rate < rate := by
  unfold padZ
  have h1 := Int.emod_nonneg (-(n : Int) - 2) (show (rate : Int) ≠ 0 by omega)
  have h2 := Int.emod_lt_of_pos (-(n : Int) - 2) (show (0 : Int) < rate by omega)
  omega
theorem padZ_int (n rate : Nat) (h : 0 < rate) : (-(n : Int) - 2) % (rate : Int) = (padZ n rate : Int) := by
  unfold padZ
  have h1 := Int.emod_nonneg (-(n : Int) - 2) (show (rate : Int) ≠ 0 by omega)
  omega
theorem OwB.none0 (w : World) (e base : Nat) (hb : base ≤ w.heap.size) : OwB (w.alloc (.cells #[] e)) base e (some ⟨w.heap.size, 0, none⟩) 0 [] :=
  ⟨rfl, .inr ⟨w.heap.size, 0, #[], rfl, hb, Go.heap_alloc_new w _, by simp, by simp [maxLen], by simp, by simp⟩⟩
end Go.Sha
namespace Go.Proofs.Ythlknckmhjnkjaa
open Go.ChangeShapes Go.WideShapes Go.ChangeAt Go.RowKit Go.Sha
def PdRel (w : World) (L : Bits) (z : Nat) (v i : Value) (wr : World) : Prop := ∃ j : Nat, j ≤ z ∧ i = .int .i64 (j : Int) ∧ BiRel w (L ++ List.replicate (z - j) false) v wr

set_option maxRecDepth 100000 in
set_option maxHeartbeats 1000000 in
theorem padded_any (a0 : Option Addr) (n c : Nat) (l : Bits) (rate : Nat) (w : World) (h : SlB w a0 n c l) (h0 : 0 < rate) (hr : rate ≤ 1600) (hn : n + 1700 ≤ 140737488355328) :
    Calls Try.prog 58 #[.slice a0 n c, .int .i64 (rate : Int)] w (RetOB 4 (padB l rate) w) := by
  obtain ⟨i0, hi, hz0, hz1, hz2⟩ := info_parts info4
  have hlen := Lib.hid h.len
  have hmx := h.max
  unfold maxLen at hmx
  have hc := h.cap
  obtain ⟨z, hz⟩ : ∃ z, z = padZ n rate := ⟨_, rfl⟩
  have hzl : z < rate := by rw [hz]; exact padZ_lt n rate h0
  have MZ : Hid ((-(n : Int) - 2) % (rate : Int) = (z : Int)) := by rw [hz]; exact padZ_int n rate h0
  have HZ := Lib.hid hz
  clear hz
  have f0 : Fr [] w (w.alloc (.cells #[] 4)) := (Fr.refl _ _).alloc _
  have O0 := Lib.hid (OwB.none0 w 4 w.heap.size (Nat.le_refl _))
  have S0 := Lib.hid (h.keep0 f0)
  clear h
  obtain ⟨ys, hys⟩ : ∃ ys, ys = l.map Value.bool := ⟨_, rfl⟩
  have Y0 : Hid (Src Try.prog 1 42 (.slice a0 n c) n ys (w.alloc (.cells #[] 4))) := by rw [hys]; exact S0.out.src Try.underlying42
  have HYS := Lib.hid hys
  clear hys S0
  have X1 : Hid (0 + n ≤ maxLen) := by show _ ≤ _; unfold maxLen; omega
  have X2 : Hid ((0 + n) * 1 ≤ 140737488355328) := by show _ ≤ _; omega
  have X3 : Hid (w.heap.size ≤ (w.alloc (.cells #[] 4)).heap.size) := by show _ ≤ _; simp
  go_enter Try.func58, Try.ntmps58
  go_wp2_with (at_builtin; refine wpList_append_src _ rfl _ _ 42 42 rfl w.heap.size 4 i0 (.bool false) 1 1 Try.underlying42 hi hz0 hz1 hz2 rfl (some ⟨w.heap.size, 0, none⟩) 0 0 [] rfl O0.out _ n ys rfl Y0.out X1.out X2.out X3.out ?_)
  intro a1 c1 w1 ho hg
  have hf : Fr [] w w1 := f0.grown hg (by simp [Value.ownBlock])
  have HO : Hid (OwB w1 w.heap.size 4 a1 c1 l) := OwB.of ho hlen.out.symm HYS.out
  have HN : Hid (l.length = n) := hlen
  clear ho hg f0 O0 Y0 X1 X2 X3
  obtain ⟨xs, hxs⟩ : ∃ xs, xs = (l).map Value.bool := ⟨_, rfl⟩
  have f1 : Fr [] w1 (w1.alloc (.cells #[.bool true] 4)) := (Fr.refl _ _).alloc _
  have O1 : Hid ((w1.alloc (.cells #[.bool true] 4)).ownsRow w.heap.size 4 1 (.slice a1 n c1) n xs) := by rw [hxs]; exact OwB.row (HO.out.keep0 f1) HN.out
  have HXS := Lib.hid hxs
  clear hxs f1
  have S1 := Lib.hid (SlB.one w1 true 4)
  have X1 : Hid (n + 1 ≤ maxLen) := by show _ ≤ _; unfold maxLen; omega
  have X2 : Hid ((n + 1) * 1 ≤ 140737488355328) := by show _ ≤ _; omega
  have X3 : Hid (w.heap.size ≤ (w1.alloc (.cells #[.bool true] 4)).heap.size) := by show _ ≤ _; have := hf.size; simp; omega
  go_wp2_with (at_builtin; refine wpList_append_src _ rfl _ _ 42 42 rfl w.heap.size 4 i0 (.bool false) 1 1 Try.underlying42 hi hz0 hz1 hz2 rfl a1 n c1 xs rfl O1.out _ 1 [.bool true] rfl (S1.out.src Try.underlying42) X1.out X2.out X3.out ?_)
  intro a3 c3 w3 ho hg
  have R2 := BiRel.grown HN.out HXS.out hf ho HO.out hg
  clear ho hg O1 S1 HO hf HN HXS X1 X2 X3
  obtain ⟨a4, n4, c4, hv4, hn4, hO, hf⟩ := R2
  simp only [Value.slice.injEq] at hv4
  obtain ⟨rfl, rfl, rfl⟩ := hv4
  have HN := Lib.hid hn4
  have HO := Lib.hid hO
  clear hn4 hO
  go_wp2_with fail
  refine (mod_nat _ _ z _ (by omega) (by omega) MZ.out).mono ?_
  rintro e w' ⟨rfl, rfl⟩
  go_wp2_with fail
  go_loopw [5, 6] (fun v i wr => PdRel w (l ++ [true]) z v i wr) (fun _ i _ => (intOf i).toNat)
  case atStart => exact ⟨z, Nat.le_refl _, rfl, _, _, _, rfl, by simpa using HN.out, by simpa using HO.out, hf⟩
  case round =>
    clear HN HO hf
    obtain ⟨j, hj, rfl, a2, n2, c2, rfl, hn2, hO, hf⟩ := hrel
    have hn2b : n2 = n + 1 + (z - j) := by rw [← hn2]; simp [hlen.out]; omega
    have HN := Lib.hid hn2
    have HO := Lib.hid hO
    clear hn2 hO
    by_cases hlt : 0 < j
    · have hb : n2 + 1 ≤ 140737488355328 := by omega
      have HB := Lib.hid hn2b
      clear hn2b
      obtain ⟨Q, hQ⟩ : ∃ Q, Q = l ++ [true] ++ List.replicate (z - j) false := ⟨_, rfl⟩
      rw [← hQ] at HN HO
      have HQ := Lib.hid hQ
      clear hQ
      obtain ⟨xs, hxs⟩ : ∃ xs, xs = (Q).map Value.bool := ⟨_, rfl⟩
      have f1 : Fr [] wr (wr.alloc (.cells #[.bool false] 4)) := (Fr.refl _ _).alloc _
      have O1 : Hid ((wr.alloc (.cells #[.bool false] 4)).ownsRow w.heap.size 4 1 (.slice a2 n2 c2) n2 xs) := by rw [hxs]; exact OwB.row (HO.out.keep0 f1) HN.out
      have HXS := Lib.hid hxs
      clear hxs f1
      have S1 := Lib.hid (SlB.one wr false 4)
      have X1 : Hid (n2 + 1 ≤ maxLen) := by show _ ≤ _; unfold maxLen; omega
      have X2 : Hid ((n2 + 1) * 1 ≤ 140737488355328) := by show _ ≤ _; omega
      have X3 : Hid (w.heap.size ≤ (wr.alloc (.cells #[.bool false] 4)).heap.size) := by show _ ≤ _; have := hf.size; simp; omega
      go_wp2_with (at_builtin; refine wpList_append_src _ rfl _ _ 42 42 rfl w.heap.size 4 i0 (.bool false) 1 1 Try.underlying42 hi hz0 hz1 hz2 rfl a2 n2 c2 xs rfl O1.out _ 1 [.bool false] rfl (S1.out.src Try.underlying42) X1.out X2.out X3.out ?_)
      intro a3 c3 w3 ho hg
      have R3 := BiRel.grown HN.out HXS.out hf ho HO.out hg
      clear ho hg O1 S1 HO hf HN HXS X1 X2 X3
      go_wp2_with fail
      refine ⟨⟨j - 1, by omega, by congr 1; omega, ?_⟩, by simp [intOf]; omega⟩
      have e : l ++ [true] ++ List.replicate (z - (j - 1)) false = Q ++ [false] := by
        rw [HQ.out, show z - (j - 1) = z - j + 1 by omega, List.replicate_succ', List.append_assoc (l ++ [true])]
      rw [e]
      exact R3
    · obtain rfl : j = 0 := by omega
      have hb : n2 + 1 ≤ 140737488355328 := by omega
      have HB := Lib.hid hn2b
      clear hn2b
      obtain ⟨Q, hQ⟩ : ∃ Q, Q = l ++ [true] ++ List.replicate (z - 0) false := ⟨_, rfl⟩
      rw [← hQ] at HN HO
      have HQ := Lib.hid hQ
      clear hQ
      obtain ⟨xs, hxs⟩ : ∃ xs, xs = (Q).map Value.bool := ⟨_, rfl⟩
      have f1 : Fr [] wr (wr.alloc (.cells #[.bool true] 4)) := (Fr.refl _ _).alloc _
      have O1 : Hid ((wr.alloc (.cells #[.bool true] 4)).ownsRow w.heap.size 4 1 (.slice a2 n2 c2) n2 xs) := by rw [hxs]; exact OwB.row (HO.out.keep0 f1) HN.out
      have HXS := Lib.hid hxs
      clear hxs f1
      have S1 := Lib.hid (SlB.one wr true 4)
      have X1 : Hid (n2 + 1 ≤ maxLen) := by show _ ≤ _; unfold maxLen; omega
      have X2 : Hid ((n2 + 1) * 1 ≤ 140737488355328) := by show _ ≤ _; omega
      have X3 : Hid (w.heap.size ≤ (wr.alloc (.cells #[.bool true] 4)).heap.size) := by show _ ≤ _; have := hf.size; simp; omega
      go_wp2_with (at_builtin; refine wpList_append_src _ rfl _ _ 42 42 rfl w.heap.size 4 i0 (.bool false) 1 1 Try.underlying42 hi hz0 hz1 hz2 rfl a2 n2 c2 xs rfl O1.out _ 1 [.bool true] rfl (S1.out.src Try.underlying42) X1.out X2.out X3.out ?_)
      intro a3 c3 w3 ho hg
      have R3 := BiRel.grown HN.out HXS.out hf ho HO.out hg
      clear ho hg O1 S1 HO hf HN HXS X1 X2 X3
      obtain ⟨a5, n5, c5, hv5, hn5, hO5, hf5⟩ := R3
      simp only [Value.slice.injEq] at hv5
      obtain ⟨rfl, rfl, rfl⟩ := hv5
      have HN5 := Lib.hid hn5
      have HO5 := Lib.hid hO5
      clear hn5 hO5
      go_wp2_with fail
      go_ret
      have e : padB l rate = Q ++ [true] := by
        unfold padB
        rw [HQ.out, hlen.out, ← HZ.out]
        rfl
      rw [e]
      refine ⟨a3, c3, ?_, HO5.out, hf5⟩
      rw [HN5.out]
      rfl
end Go.Proofs.Ythlknckmhjnkjaa
