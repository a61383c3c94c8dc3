/- markByteS and heldByteS of the exact laws. Numbers of moderate size. -/
import Derived.Test.YthlknckmhjnkjaaRead
import Derived.Test.YthlknckmhjnkjaaOwn
import Derived.LoopTactic
namespace Go.Sha
open Go.RowKit
/-- the bytes with the numbers from k on -/
def marks (k n : Nat) : Bs := (List.range n).map fun i => UInt8.ofNat (k + i)
theorem marks_length (k n : Nat) : (marks k n).length = n := by simp [marks]
theorem marks_succ (k n : Nat) : marks k (n + 1) = marks k n ++ [UInt8.ofNat (k + n)] := by simp [marks, List.range_succ]
theorem marks_getD (k n i : Nat) (h : i < n) : (marks k n).getD i 0 = UInt8.ofNat (k + i) := by simp [marks, List.getD_eq_getElem?_getD, h]
theorem splice_snoc (cur : Array Value) (l : Bs) (v : UInt8) (h : l.length < cur.size) : (splice cur 0 l).setIfInBounds l.length (.int .u8 v.toNat) = splice cur 0 (l ++ [v]) := by
  unfold splice
  simp only [List.take_zero, List.nil_append, Nat.zero_add, List.setIfInBounds_toArray, List.length_append, List.length_cons, List.length_nil, List.map_append, List.map_cons, List.map_nil]
  congr 1
  rw [List.set_append_right _ _ (by simp), List.drop_eq_getElem_cons (by simpa using h)]
  simp [bv]
end Go.Sha
namespace Go.Proofs.Ythlknckmhjnkjaa
open Go.ChangeShapes Go.WideShapes Go.ChangeAt Go.RowKit Go.Sha
def MkRel (w : World) (g T : Nat) (cur : Array Value) (k n : Nat) (kv iv : Value) (wr : World) : Prop :=
  ∃ i : Nat, i ≤ n ∧ kv = .int .i64 ((k + i : Nat) : Int) ∧ iv = .int .i64 i ∧ wr.heap[g]? = some (.cells (splice cur 0 (marks k i)) T (0, 0)) ∧ Fr [g] w wr
set_option maxHeartbeats 400000 in
theorem markByteS_any (w : World) (g T : Nat) (cur : Array Value) (n c k : Nat) (hg : w.heap[g]? = some (.cells cur T (0, 0))) (hn : n ≤ cur.size) (hc : n ≤ c) (hm : c ≤ 9223372036854775807) (hk : k + n ≤ 1099511627776) :
    Calls Try.prog 21 #[.slice (some ⟨g, 0, none⟩) n c, .int .i64 (k : Int)] w fun e w' => e = .returned (.int .i64 ((k + n : Nat) : Int)) ∧ w'.heap[g]? = some (.cells (splice cur 0 (marks k n)) T (0, 0)) ∧ Fr [g] w w' := by
  have HG := Lib.hid hg
  clear hg
  go_enter Try.func21, Try.ntmps21
  go_wp2_with fail
  go_loopw [1, 5] (fun kv iv wr => MkRel w g T cur k n kv iv wr) (fun _ iv _ => n - (intOf iv).toNat)
  case atStart => exact ⟨0, by omega, rfl, rfl, by rw [show marks k 0 = [] from rfl, splice_nil]; exact HG.out, Fr.refl _ _⟩
  case round =>
    clear HG
    obtain ⟨i, hi, rfl, rfl, hh, hf⟩ := hrel
    have HH := Lib.hid hh
    clear hh
    by_cases hlt : i < n
    · obtain ⟨v, hv⟩ : ∃ v, (splice cur 0 (marks k i))[i]? = some v := ⟨_, Array.getElem?_eq_getElem (by rw [splice_size _ _ _ (by rw [marks_length]; omega)]; omega)⟩
      have q0 : wr.cell? ⟨g, i, none⟩ = some v := by rw [cell_of HH.out i]; exact hv
      have q1 : wr.frozen? ⟨g, i, none⟩ = false := by simp [World.frozen?, HH.out]
      clear hv
      have hw : ((k + i : Nat) : Int) % 256 = ((UInt8.ofNat (k + i)).toNat : Int) := by rw [UInt8.toNat_ofNat']; omega
      have HW := Lib.hid hw
      clear hw
      go_wp2_with fail
      refine ⟨⟨i + 1, by omega, by congr 1, by simp, ?_, hf.setCell _ _ (.inr (by simp))⟩, by simp [intOf]; omega⟩
      rw [Go.Sha.heap_setCell_same HH.out]
      have e := splice_snoc cur (marks k i) (UInt8.ofNat (k + i)) (by rw [marks_length]; omega)
      rw [marks_length, ← HW.out] at e
      rw [marks_succ, ← e]
      rfl
    · obtain rfl : i = n := by omega
      go_wp2_with fail
      go_ret
      exact ⟨rfl, HH.out, hf⟩

set_option maxHeartbeats 400000 in
theorem heldByteS_any (w : World) (a : Option Addr) (n c k : Nat) (h : Sl w a n c (marks k n)) (hk : k + n ≤ 1099511627776) :
    Calls Try.prog 22 #[.slice a n c, .int .i64 (k : Int)] w fun e w' => e = .returned (.int .i64 ((k + n : Nat) : Int)) ∧ w' = w := by
  have hm := h.max
  unfold maxLen at hm
  have hc := h.cap
  have HS := Lib.hid h
  clear h
  go_enter Try.func22, Try.ntmps22
  go_wp2_with fail
  go_loop [1, 5] (fun kv iv => ∃ i : Nat, i ≤ n ∧ kv = .int .i64 ((k + i : Nat) : Int) ∧ iv = .int .i64 (i : Int)) (fun _ iv => n - (intOf iv).toNat)
  case atStart => exact ⟨0, by omega, rfl, rfl⟩
  case round =>
    obtain ⟨i, hi, rfl, rfl⟩ := hrel
    by_cases hlt : i < n
    · obtain ⟨b, o, rfl, hcel⟩ : ∃ b o, a = some ⟨b, o, none⟩ ∧ ∀ i, i < n → w.cell? ⟨b, o + i, none⟩ = some (.int .u8 ((marks k n).getD i 0).toNat) := by
        rcases HS.out.cel with h0 | h0
        · omega
        · exact h0
      have q0 := hcel i hlt
      clear hcel
      rw [marks_getD k n i hlt, UInt8.toNat_ofNat'] at q0
      obtain ⟨m, hm⟩ : ∃ m, m = (k + i) % 2 ^ 8 := ⟨_, rfl⟩
      rw [← hm] at q0
      have e1 : (((k : Int) + (i : Int)) % 256) = (m : Int) := by omega
      have e2 : (((k + i : Nat) : Int) % 256) = (m : Int) := by omega
      clear hm
      go_wp2_with fail
      go_round
      case rel => exact ⟨i + 1, by omega, by congr 1, by simp⟩
      case measure => simp [intOf]; omega
    · obtain rfl : i = n := by omega
      go_wp2_with fail
      go_ret
      exact ⟨rfl, rfl⟩
end Go.Proofs.Ythlknckmhjnkjaa
