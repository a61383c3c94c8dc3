/- Contracts and lemmas, merged: Cmp, ToB, Mark, ExSum. Their conditions stand in each. -/
import Derived.Test.YtfgfhdkedmgfiaaGA
import Derived.Test.YtfgfhdkedmgfiaaGB
import Derived.Test.YtfgfhdkedmgfiaaGC
import Derived.Test.YtfgfhdkedmgfiaaGD
import Derived.Test.YtfgfhdkedmgfiaaGE
import Derived.Test.YtfgfhdkedmgfiaaGF
import Derived.Test.YtfgfhdkedmgfiaaGG
import Derived.LoopTactic
section
namespace Go.Proofs.Ytfgfhdkedmgfiaa
open Go.ChangeShapes Go.WideShapes Go.ChangeAt Go.RowKit Go.Sha

set_option maxHeartbeats 400000 in
theorem eqByteS_same (a0 b0 : Option Addr) (n ca cb : Nat) (x y : Bs) (w : World) (hx : Sl w a0 n ca x) (hy : Sl w b0 n cb y) :
    Calls Try.prog 83 #[.slice a0 n ca, .slice b0 n cb] w (RetB (x == y) w) := by
  have hm := hx.max
  have hc := hx.cap
  unfold maxLen at hm
  generalize hr : (x == y) = r
  have HR := Lib.hid hr
  clear hr
  go_enter Try.func83, Try.ntmps83
  go_wp2
  go_loopw [5] (fun i wr => SameRel w x y n i wr) (fun i _ => n - (intOf i).toNat)
  case atStart => exact ⟨0, Nat.zero_le _, rfl, by simp, Fr.refl _ _⟩
  case round =>
    obtain ⟨k, hk, rfl, hu, hf⟩ := hrel
    have HU := Lib.hid hu
    clear hu
    by_cases hlt : k < n
    · rcases hx.cel with h0 | ⟨b, o, rfl, hcx⟩
      · omega
      rcases hy.cel with h0 | ⟨b', o', rfl, hcy⟩
      · omega
      have q1 := hf.cell (hcx k hlt) (by simp)
      have q2 := hf.cell (hcy k hlt) (by simp)
      generalize hX : x.getD k 0 = X at q1
      generalize hY : y.getD k 0 = Y at q2
      have HX := Lib.hid hX
      have HY := Lib.hid hY
      clear hX hY hcx hcy
      by_cases hne : X = Y
      · have hd := nat_eq hne
        have HE := Lib.hid hne
        clear hne
        go_wp2
        go_quiet (fail)
        go_wp2
        refine ⟨⟨k + 1, hlt, by simp, take_snoc_eq hx.len hy.len hlt HU.out (by rw [HX.out, HY.out]; exact HE.out), hf.drewN _⟩, ?_⟩
        simp [intOf]; omega
      · have hd := nat_ne hne
        have HE := Lib.hid hne
        clear hne
        go_wp2
        go_quiet (fail)
        go_wp2
        go_ret
        have h1 : (x == y) = false := same_no (k := k) (by rw [HX.out, HY.out]; exact HE.out)
        rw [← HR.out, h1]
        exact ⟨rfl, hf.drewN _⟩
    · go_wp2
      go_ret
      obtain rfl : k = n := by omega
      rw [← HR.out, same_yes hx.len hy.len HU.out]
      exact ⟨rfl, hf⟩

/-- eqByteS tells whether the two read as the same bytes -/
theorem eqByteS_any (a0 b0 : Option Addr) (n m ca cb : Nat) (x y : Bs) (w : World) (hx : Sl w a0 n ca x) (hy : Sl w b0 m cb y) :
    Calls Try.prog 83 #[.slice a0 n ca, .slice b0 m cb] w (RetB (x == y) w) := by
  by_cases h : n = m
  · subst h
    exact eqByteS_same a0 b0 n ca cb x y w hx hy
  · rw [same_len hx.len hy.len h]
    have h1 : ((n : Int) != (m : Int)) = true := by rw [bne_iff_ne]; omega
    go_enter Try.func83, Try.ntmps83
    go_wp2
    go_ret
    exact ⟨rfl, Fr.refl _ _⟩
end Go.Proofs.Ytfgfhdkedmgfiaa
end

section
namespace Go.Proofs.Ytfgfhdkedmgfiaa
open Go.ChangeShapes Go.WideShapes Go.ChangeAt Go.RowKit Go.Sha

def CopyRel (w : World) (l : Bs) (n : Nat) (i : Value) (wr : World) : Prop :=
  ∃ k : Nat, k ≤ n ∧ i = .int .i64 k ∧ Ow wr w.heap.size 5 (some ⟨w.heap.size, 0, none⟩) n (l.take k ++ List.replicate (n - k) 0) ∧ Fr [] w wr
theorem copy_len (l : Bs) (n k : Nat) (hl : l.length = n) (hk : k ≤ n) : (l.take k ++ List.replicate (n - k) (0 : UInt8)).length = n := by simp; omega
theorem copy_set (l : Bs) (n k : Nat) (hl : l.length = n) (hk : k < n) : (l.take k ++ List.replicate (n - k) (0 : UInt8)).set k (l.getD k 0) = l.take (k + 1) ++ List.replicate (n - (k + 1)) 0 := by
  rw [List.set_append_right _ _ (by simp; omega), List.take_succ_eq_append_getElem (by omega), getD_at l k (by omega)]
  simp only [List.length_take, Nat.min_eq_left (show k ≤ l.length by omega), Nat.sub_self, List.append_assoc]
  rw [show n - k = (n - (k + 1)) + 1 by omega, List.replicate_succ, List.set_cons_zero]
  rfl

set_option maxHeartbeats 400000 in
theorem toByteS_any (a0 : Option Addr) (n c : Nat) (l : Bs) (w : World) (h : Sl w a0 n c l) (hn : n ≤ 140737488355328) :
    Calls Try.prog 82 #[.slice a0 n c] w (RetO 5 l w) := by
  have hmk := make_bytes n hn
  have HM := Lib.hid (Ow.made w n 5 (by unfold maxLen; omega))
  go_enter Try.func82, Try.ntmps82
  go_wp2
  clear hmk
  go_loopw [4] (fun i wr => CopyRel w l n i wr) (fun i _ => n - (intOf i).toNat)
  case atStart => exact ⟨0, Nat.zero_le _, rfl, by simpa using HM.out, (Fr.refl _ _).alloc _⟩
  case round =>
    obtain ⟨k, hk, rfl, ho, hf⟩ := hrel
    clear HM
    have hl := copy_len l n k h.len hk
    have HL := Lib.hid hl
    clear hl
    by_cases hlt : k < n
    · rcases h.cel with h0 | ⟨b, o, rfl, hcx⟩
      · omega
      have q1 := hf.cell (hcx k hlt) (by simp)
      have q2 := ho.cell (k := k) (by rw [HL.out]; exact hlt)
      have q3 := q2.2
      replace q2 := q2.1
      generalize hX : l.getD k 0 = X at q1
      have HX := Lib.hid hX
      generalize hY : (l.take k ++ List.replicate (n - k) 0).getD k 0 = Y at q2
      clear hX hY hcx
      go_wp2
      refine ⟨⟨k + 1, hlt, by simp, ?_, hf.setCell _ _ (.inl (Nat.le_refl _))⟩, by simp [intOf]; omega⟩
      have := ho.set (k := k) (by rw [HL.out]; exact hlt) X
      rw [← HX.out, copy_set l n k h.len hlt] at this
      rw [← HX.out]
      exact this
    · go_wp2
      go_ret
      obtain rfl : k = n := by omega
      have hln := h.len
      subst hln
      simp only [List.take_length, Nat.sub_self, List.replicate_zero, List.append_nil] at ho
      exact ⟨_, _, rfl, ho, hf⟩
end Go.Proofs.Ytfgfhdkedmgfiaa
end

section
namespace Go.Sha
open Go.RowKit
/-- the bytes with the numbers from k on -/
def marks (k n : Nat) : Bs := (List.range n).map fun i => UInt8.ofNat (k + i)
theorem marks_length (k n : Nat) : (marks k n).length = n := by simp [marks]
theorem marks_succ (k n : Nat) : marks k (n + 1) = marks k n ++ [UInt8.ofNat (k + n)] := by simp [marks, List.range_succ]
theorem marks_getD (k n i : Nat) (h : i < n) : (marks k n).getD i 0 = UInt8.ofNat (k + i) := by simp [marks, List.getD_eq_getElem?_getD, h]
theorem splice_snoc (cur : Array Value) (l : Bs) (v : UInt8) (h : l.length < cur.size) : (splice cur 0 l).setIfInBounds l.length (.int .u8 v.toNat) = splice cur 0 (l ++ [v]) := by
  unfold splice
  simp only [List.take_zero, List.nil_append, Nat.zero_add, List.setIfInBounds_toArray, List.length_append, List.length_cons, List.length_nil, List.map_append, List.map_cons, List.map_nil]
  congr 1
  rw [List.set_append_right _ _ (by simp), List.drop_eq_getElem_cons (by simpa using h)]
  simp [bv]
end Go.Sha
namespace Go.Proofs.Ytfgfhdkedmgfiaa
open Go.ChangeShapes Go.WideShapes Go.ChangeAt Go.RowKit Go.Sha
def MkRel (w : World) (g T : Nat) (cur : Array Value) (k n : Nat) (kv iv : Value) (wr : World) : Prop :=
  ∃ i : Nat, i ≤ n ∧ kv = .int .i64 ((k + i : Nat) : Int) ∧ iv = .int .i64 i ∧ wr.heap[g]? = some (.cells (splice cur 0 (marks k i)) T (0, 0)) ∧ Fr [g] w wr
set_option maxHeartbeats 400000 in
theorem markByteS_any (w : World) (g T : Nat) (cur : Array Value) (n c k : Nat) (hg : w.heap[g]? = some (.cells cur T (0, 0))) (hn : n ≤ cur.size) (hc : n ≤ c) (_ : c ≤ 9223372036854775807) (hk : k + n ≤ 1099511627776) :
    Calls Try.prog 54 #[.slice (some ⟨g, 0, none⟩) n c, .int .i64 (k : Int)] w fun e w' => e = .returned (.int .i64 ((k + n : Nat) : Int)) ∧ w'.heap[g]? = some (.cells (splice cur 0 (marks k n)) T (0, 0)) ∧ Fr [g] w w' := by
  have HG := Lib.hid hg
  clear hg
  go_enter Try.func54, Try.ntmps54
  go_wp2_with fail
  go_loopw [1, 5] (fun kv iv wr => MkRel w g T cur k n kv iv wr) (fun _ iv _ => n - (intOf iv).toNat)
  case atStart => exact ⟨0, by omega, rfl, rfl, by rw [show marks k 0 = [] from rfl, splice_nil]; exact HG.out, Fr.refl _ _⟩
  case round =>
    clear HG
    obtain ⟨i, hi, rfl, rfl, hh, hf⟩ := hrel
    have HH := Lib.hid hh
    clear hh
    by_cases hlt : i < n
    · obtain ⟨v, hv⟩ : ∃ v, (splice cur 0 (marks k i))[i]? = some v := ⟨_, Array.getElem?_eq_getElem (by rw [splice_size _ _ _ (by rw [marks_length]; omega)]; omega)⟩
      have q0 : wr.cell? ⟨g, i, none⟩ = some v := by rw [cell_of HH.out i]; exact hv
      have q1 : wr.frozen? ⟨g, i, none⟩ = false := by simp [World.frozen?, HH.out]
      clear hv
      have hw : ((k + i : Nat) : Int) % 256 = ((UInt8.ofNat (k + i)).toNat : Int) := by rw [UInt8.toNat_ofNat']; omega
      have HW := Lib.hid hw
      clear hw
      go_wp2_with fail
      refine ⟨⟨i + 1, by omega, by congr 1, by simp, ?_, hf.setCell _ _ (.inr (by simp))⟩, by simp [intOf]; omega⟩
      rw [Go.Sha.heap_setCell_same HH.out]
      have e := splice_snoc cur (marks k i) (UInt8.ofNat (k + i)) (by rw [marks_length]; omega)
      rw [marks_length, ← HW.out] at e
      rw [marks_succ, ← e]
      rfl
    · obtain rfl : i = n := by omega
      go_wp2_with fail
      go_ret
      exact ⟨rfl, HH.out, hf⟩

set_option maxHeartbeats 400000 in
theorem heldByteS_any (w : World) (a : Option Addr) (n c k : Nat) (h : Sl w a n c (marks k n)) (hk : k + n ≤ 1099511627776) :
    Calls Try.prog 55 #[.slice a n c, .int .i64 (k : Int)] w fun e w' => e = .returned (.int .i64 ((k + n : Nat) : Int)) ∧ w' = w := by
  have hm := h.max
  unfold maxLen at hm
  have hc := h.cap
  have HS := Lib.hid h
  clear h
  go_enter Try.func55, Try.ntmps55
  go_wp2_with fail
  go_loop [1, 5] (fun kv iv => ∃ i : Nat, i ≤ n ∧ kv = .int .i64 ((k + i : Nat) : Int) ∧ iv = .int .i64 (i : Int)) (fun _ iv => n - (intOf iv).toNat)
  case atStart => exact ⟨0, by omega, rfl, rfl⟩
  case round =>
    obtain ⟨i, hi, rfl, rfl⟩ := hrel
    by_cases hlt : i < n
    · obtain ⟨b, o, rfl, hcel⟩ : ∃ b o, a = some ⟨b, o, none⟩ ∧ ∀ i, i < n → w.cell? ⟨b, o + i, none⟩ = some (.int .u8 ((marks k n).getD i 0).toNat) := by
        rcases HS.out.cel with h0 | h0
        · omega
        · exact h0
      have q0 := hcel i hlt
      clear hcel
      rw [marks_getD k n i hlt, UInt8.toNat_ofNat'] at q0
      obtain ⟨m, hm⟩ : ∃ m, m = (k + i) % 2 ^ 8 := ⟨_, rfl⟩
      rw [← hm] at q0
      have e1 : (((k : Int) + (i : Int)) % 256) = (m : Int) := by omega
      have e2 : (((k + i : Nat) : Int) % 256) = (m : Int) := by omega
      clear hm
      go_wp2_with fail
      go_round
      case rel => exact ⟨i + 1, by omega, by congr 1, by simp⟩
      case measure => simp [intOf]; omega
    · obtain rfl : i = n := by omega
      go_wp2_with fail
      go_ret
      exact ⟨rfl, rfl⟩
end Go.Proofs.Ytfgfhdkedmgfiaa
end

section
namespace Go.Proofs.Ytfgfhdkedmgfiaa
open Go.ChangeShapes Go.WideShapes Go.ChangeAt Go.RowKit Go.Sha
theorem eqByteS_t (a0 b0 : Option Addr) (n m ca cb : Nat) (x y : Bs) (w : World) (hx : Sl w a0 n ca x) (hy : Sl w b0 m cb y) (h : x = y) :
    Calls Try.prog 83 #[.slice a0 n ca, .slice b0 m cb] w (RetB true w) := by
  have := eqByteS_any a0 b0 n m ca cb x y w hx hy
  rwa [show (x == y) = true by simpa using h] at this
/-- marks into a row of one's own -/
theorem markOw (w : World) (base n c k : Nat) (a : Option Addr) (l : Bs) (h : Ow w base 5 a c l) (hl : l.length = n) (hk : k + n ≤ 1099511627776) :
    Calls Try.prog 54 #[.slice a n c, .int .i64 (k : Int)] w fun e w' => e = .returned (.int .i64 ((k + n : Nat) : Int)) ∧ Fr (Value.slice a n c).ownBlock.toList w w' := by
  by_cases h0 : n = 0
  · subst h0
    go_enter Try.func54, Try.ntmps54
    go_wp2_with fail
    go_loop [1, 5] (fun kv iv => kv = .int .i64 (k : Int) ∧ iv = .int .i64 0) (fun _ _ => 0)
    case atStart => exact ⟨rfl, rfl⟩
    case round =>
      obtain ⟨rfl, rfl⟩ := hrel
      go_wp2_with fail
      go_ret
      refine ⟨?_, Fr.refl _ _⟩
      show Ending.returned (.int .i64 (k : Int)) = _
      exact ret_int (by simp)
  · obtain ⟨g, cur, rfl, hg, hh, h1, h2, h3, h4⟩ := h.open (by omega)
    unfold maxLen at h2
    refine (markByteS_any w g 5 cur n c k hh (by omega) (by omega) (by omega) hk).mono ?_
    rintro e w' ⟨rfl, _, f⟩
    exact ⟨rfl, f.mono (fun q _ hq => by simpa [Value.ownBlock] using hq)⟩

end Go.Proofs.Ytfgfhdkedmgfiaa
end
