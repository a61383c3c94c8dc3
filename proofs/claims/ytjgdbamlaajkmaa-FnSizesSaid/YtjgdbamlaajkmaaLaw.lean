/- The laws' own small functions over calls and results. No condition but on lengths. -/
import Derived.Test.YtjgdbamlaajkmaaRun

namespace Go.Proofs.Ytjgdbamlaajkmaa
open Go.ChangeShapes Go.WideShapes Go.ChangeAt Go.RowKit Go.Sha
theorem sizeAT : (Try.prog.info? 26).map (·.size) = some 4 := by kernel_rfl
theorem own_n (a0 : Option Addr) (n c : Nat) (l : Bs) (w : World) (h : Sl w a0 n c l) (hn : n ≤ 140737488355328) :
    Calls Try.prog 26 #[.slice a0 n c] w fun e w' => ∃ a c', e = .returned (.slice a n c') ∧ Ow w' w.heap.size 5 a c' l ∧ Fr [] w w' := by
  have := own_any a0 n c l w h hn
  unfold RetO at this
  rwa [h.len] at this
/-- a call with bytes in new memory -/
def ActW (k att : Int) (n : Nat) (l : Bs) (w : World) (e : Ending) (w' : World) : Prop := ∃ a c, e = .returned (.agg #[.int .i64 k, .int .i64 att, .int .i64 0, .slice a n c]) ∧ Ow w' w.heap.size 5 a c l ∧ Fr [] w w'

set_option maxRecDepth 100000 in
theorem lwrite_any (att : Int) (a0 : Option Addr) (n c : Nat) (l : Bs) (w : World) (h : Sl w a0 n c l) (hn : n ≤ 140737488355328) :
    Calls Try.prog 17 #[.int .i64 att, .slice a0 n c] w (ActW 0 att n l w) := by
  have f1 : Fr [] w (w.alloc (.cells #[.int .i64 0, .int .i64 0, .int .i64 0, .slice none 0 0] 26)) := (Fr.refl _ _).alloc _
  have B0 : Hid ((w.alloc (.cells #[.int .i64 0, .int .i64 0, .int .i64 0, .slice none 0 0] 26)).heap[w.heap.size]? = some (.cells #[.int .i64 0, .int .i64 0, .int .i64 0, .slice none 0 0] 26 (0, 0))) := Go.heap_alloc_new w _
  have S1 := Lib.hid (h.keep0 f1)
  have z1 : w.heap.size < (w.alloc (.cells #[.int .i64 0, .int .i64 0, .int .i64 0, .slice none 0 0] 26)).heap.size := by simp
  clear h
  go_enter Try.func17, Try.ntmps17
  go_wp2_with fail
  generalize w.alloc (.cells #[.int .i64 0, .int .i64 0, .int .i64 0, .slice none 0 0] 26) = w1 at f1 B0 S1 z1 ⊢
  refine (own_n a0 n c l w1 S1.out hn).mono ?_
  rintro e w2 ⟨a2, c2, rfl, O2, f2⟩
  have HO2 := Lib.hid O2
  have B1 : Hid (w2.heap[w.heap.size]? = some (.cells #[.int .i64 0, .int .i64 0, .int .i64 0, .slice none 0 0] 26 (0, 0))) := f2.obj B0.out (by simp)
  clear O2 B0
  go_wp2_with (refine wpList_store_bits rfl _ _ _ rfl w.heap.size rfl 26 #[.int .i64 0, .int .i64 att, .int .i64 0, .slice a2 n c2] #[.int .i64 0, .int .i64 0, .int .i64 0, .slice none 0 0] rfl B1.out rfl (by intro v hv; simp at hv; rcases hv with rfl | rfl | rfl | rfl <;> rfl) sizeAT ?_; refine Hid.out ?_)
  show wpList _ _ _ _ _ _
  have G9 := Lib.hid (setRow_heap _ _ _ (#[.int .i64 0, .int .i64 att, .int .i64 0, .slice a2 n c2] : Array Value) _ _ B1.out)
  have f9 : Fr [w.heap.size] w2 (w2.setRow w.heap.size #[.int .i64 0, .int .i64 att, .int .i64 0, .slice a2 n c2]) := (Fr.refl _ _).setRow _ _ (.inr (by simp))
  generalize w2.setRow w.heap.size #[.int .i64 0, .int .i64 att, .int .i64 0, .slice a2 n c2] = w9 at G9 f9 ⊢
  go_wp2_with fail
  refine bodyPost_ret (v := .agg #[.int .i64 0, .int .i64 att, .int .i64 0, .slice a2 n c2]) (results_cell_row rfl _ _ w.heap.size _ _ _ _ rfl G9.out Try.underlying26 rfl sizeAT) rfl ?_
  refine ⟨a2, c2, rfl, (HO2.out.keep f9 (fun x hx => by simp; omega)).mono (by omega), (f1.trans f2).via f9 (by simp)⟩

set_option maxRecDepth 100000 in
theorem lask_any (att : Int) (a0 : Option Addr) (n c : Nat) (l : Bs) (w : World) (h : Sl w a0 n c l) (hn : n ≤ 140737488355328) :
    Calls Try.prog 18 #[.int .i64 att, .slice a0 n c] w (ActW 1 att n l w) := by
  have f1 : Fr [] w (w.alloc (.cells #[.int .i64 0, .int .i64 0, .int .i64 0, .slice none 0 0] 26)) := (Fr.refl _ _).alloc _
  have B0 : Hid ((w.alloc (.cells #[.int .i64 0, .int .i64 0, .int .i64 0, .slice none 0 0] 26)).heap[w.heap.size]? = some (.cells #[.int .i64 0, .int .i64 0, .int .i64 0, .slice none 0 0] 26 (0, 0))) := Go.heap_alloc_new w _
  have S1 := Lib.hid (h.keep0 f1)
  have z1 : w.heap.size < (w.alloc (.cells #[.int .i64 0, .int .i64 0, .int .i64 0, .slice none 0 0] 26)).heap.size := by simp
  clear h
  go_enter Try.func18, Try.ntmps18
  go_wp2_with fail
  generalize w.alloc (.cells #[.int .i64 0, .int .i64 0, .int .i64 0, .slice none 0 0] 26) = w1 at f1 B0 S1 z1 ⊢
  refine (own_n a0 n c l w1 S1.out hn).mono ?_
  rintro e w2 ⟨a2, c2, rfl, O2, f2⟩
  have HO2 := Lib.hid O2
  have B1 : Hid (w2.heap[w.heap.size]? = some (.cells #[.int .i64 0, .int .i64 0, .int .i64 0, .slice none 0 0] 26 (0, 0))) := f2.obj B0.out (by simp)
  clear O2 B0
  go_wp2_with (refine wpList_store_bits rfl _ _ _ rfl w.heap.size rfl 26 #[.int .i64 1, .int .i64 att, .int .i64 0, .slice a2 n c2] #[.int .i64 0, .int .i64 0, .int .i64 0, .slice none 0 0] rfl B1.out rfl (by intro v hv; simp at hv; rcases hv with rfl | rfl | rfl | rfl <;> rfl) sizeAT ?_; refine Hid.out ?_)
  show wpList _ _ _ _ _ _
  have G9 := Lib.hid (setRow_heap _ _ _ (#[.int .i64 1, .int .i64 att, .int .i64 0, .slice a2 n c2] : Array Value) _ _ B1.out)
  have f9 : Fr [w.heap.size] w2 (w2.setRow w.heap.size #[.int .i64 1, .int .i64 att, .int .i64 0, .slice a2 n c2]) := (Fr.refl _ _).setRow _ _ (.inr (by simp))
  generalize w2.setRow w.heap.size #[.int .i64 1, .int .i64 att, .int .i64 0, .slice a2 n c2] = w9 at G9 f9 ⊢
  go_wp2_with fail
  refine bodyPost_ret (v := .agg #[.int .i64 1, .int .i64 att, .int .i64 0, .slice a2 n c2]) (results_cell_row rfl _ _ w.heap.size _ _ _ _ rfl G9.out Try.underlying26 rfl sizeAT) rfl ?_
  refine ⟨a2, c2, rfl, (HO2.out.keep f9 (fun x hx => by simp; omega)).mono (by omega), (f1.trans f2).via f9 (by simp)⟩

set_option maxRecDepth 100000 in
theorem lplain_any (k att : Int) (w : World) :
    Calls Try.prog 16 #[.int .i64 k, .int .i64 att] w fun e w' => e = .returned (.agg #[.int .i64 k, .int .i64 att, .int .i64 0, .slice none 0 0]) ∧ Fr [] w w' := by
  have f1 : Fr [] w (w.alloc (.cells #[.int .i64 0, .int .i64 0, .int .i64 0, .slice none 0 0] 26)) := (Fr.refl _ _).alloc _
  have B1 : Hid ((w.alloc (.cells #[.int .i64 0, .int .i64 0, .int .i64 0, .slice none 0 0] 26)).heap[w.heap.size]? = some (.cells #[.int .i64 0, .int .i64 0, .int .i64 0, .slice none 0 0] 26 (0, 0))) := Go.heap_alloc_new w _
  go_enter Try.func16, Try.ntmps16
  go_wp2_with (refine wpList_store_bits rfl _ _ _ rfl w.heap.size rfl 26 #[.int .i64 k, .int .i64 att, .int .i64 0, .slice none 0 0] #[.int .i64 0, .int .i64 0, .int .i64 0, .slice none 0 0] rfl B1.out rfl (by intro v hv; simp at hv; rcases hv with rfl | rfl | rfl | rfl <;> rfl) sizeAT ?_; refine Hid.out ?_)
  show wpList _ _ _ _ _ _
  have G9 := Lib.hid (setRow_heap _ _ _ (#[.int .i64 k, .int .i64 att, .int .i64 0, .slice none 0 0] : Array Value) _ _ B1.out)
  have f9 : Fr [w.heap.size] (w.alloc (.cells #[.int .i64 0, .int .i64 0, .int .i64 0, .slice none 0 0] 26)) ((w.alloc (.cells #[.int .i64 0, .int .i64 0, .int .i64 0, .slice none 0 0] 26)).setRow w.heap.size #[.int .i64 k, .int .i64 att, .int .i64 0, .slice none 0 0]) := (Fr.refl _ _).setRow _ _ (.inr (by simp))
  generalize (w.alloc (.cells #[.int .i64 0, .int .i64 0, .int .i64 0, .slice none 0 0] 26)).setRow w.heap.size #[.int .i64 k, .int .i64 att, .int .i64 0, .slice none 0 0] = w9 at G9 f9 ⊢
  go_wp2_with fail
  refine bodyPost_ret (v := .agg #[.int .i64 k, .int .i64 att, .int .i64 0, .slice none 0 0]) (results_cell_row rfl _ _ w.heap.size _ _ _ _ rfl G9.out Try.underlying26 rfl sizeAT) rfl ?_
  exact ⟨rfl, f1.via f9 (by simp)⟩

set_option maxRecDepth 100000 in
theorem lload_any (att pick : Int) (w : World) :
    Calls Try.prog 25 #[.int .i64 att, .int .i64 pick] w fun e w' => e = .returned (.agg #[.int .i64 9, .int .i64 att, .int .i64 pick, .slice none 0 0]) ∧ Fr [] w w' := by
  have f1 : Fr [] w (w.alloc (.cells #[.int .i64 0, .int .i64 0, .int .i64 0, .slice none 0 0] 26)) := (Fr.refl _ _).alloc _
  have B1 : Hid ((w.alloc (.cells #[.int .i64 0, .int .i64 0, .int .i64 0, .slice none 0 0] 26)).heap[w.heap.size]? = some (.cells #[.int .i64 0, .int .i64 0, .int .i64 0, .slice none 0 0] 26 (0, 0))) := Go.heap_alloc_new w _
  go_enter Try.func25, Try.ntmps25
  go_wp2_with (refine wpList_store_bits rfl _ _ _ rfl w.heap.size rfl 26 #[.int .i64 9, .int .i64 att, .int .i64 pick, .slice none 0 0] #[.int .i64 0, .int .i64 0, .int .i64 0, .slice none 0 0] rfl B1.out rfl (by intro v hv; simp at hv; rcases hv with rfl | rfl | rfl | rfl <;> rfl) sizeAT ?_; refine Hid.out ?_)
  show wpList _ _ _ _ _ _
  have G9 := Lib.hid (setRow_heap _ _ _ (#[.int .i64 9, .int .i64 att, .int .i64 pick, .slice none 0 0] : Array Value) _ _ B1.out)
  have f9 : Fr [w.heap.size] (w.alloc (.cells #[.int .i64 0, .int .i64 0, .int .i64 0, .slice none 0 0] 26)) ((w.alloc (.cells #[.int .i64 0, .int .i64 0, .int .i64 0, .slice none 0 0] 26)).setRow w.heap.size #[.int .i64 9, .int .i64 att, .int .i64 pick, .slice none 0 0]) := (Fr.refl _ _).setRow _ _ (.inr (by simp))
  generalize (w.alloc (.cells #[.int .i64 0, .int .i64 0, .int .i64 0, .slice none 0 0] 26)).setRow w.heap.size #[.int .i64 9, .int .i64 att, .int .i64 pick, .slice none 0 0] = w9 at G9 f9 ⊢
  go_wp2_with fail
  refine bodyPost_ret (v := .agg #[.int .i64 9, .int .i64 att, .int .i64 pick, .slice none 0 0]) (results_cell_row rfl _ _ w.heap.size _ _ _ _ rfl G9.out Try.underlying26 rfl sizeAT) rfl ?_
  exact ⟨rfl, f1.via f9 (by simp)⟩

/-- the bytes of a result -/
theorem RsI_sl {w : World} {base : Nat} {S : List Nat} {a : Option Addr} {n c : Nat} {rs : List Res} {vs : List (Option Addr × Nat)} (h : RsI 31 5 w base S a n c rs vs) (i : Nat) (hi : i < n) : Sl w (vs.getD i (none, 0)).1 (rs.getD i ⟨0, [], false, false⟩).data.length (vs.getD i (none, 0)).2 (rs.getD i ⟨0, [], false, false⟩).data := (h.own i hi).sl
attribute [local irreducible] wpStill in
set_option maxHeartbeats 400000 in
theorem tells_any (w : World) (base : Nat) (S : List Nat) (a : Option Addr) (n c : Nat) (rs : List Res) (vs : List (Option Addr × Nat)) (i : Nat) (ad : Option Addr) (nd cd : Nat) (want : Bs) (h : RsI 31 5 w base S a n c rs vs) (hi : i < n) (hS : Sl w ad nd cd want) :
    Calls Try.prog 23 #[.slice a n c, .int .i64 (i : Int), .slice ad nd cd] w (RetB ((rs.getD i ⟨0, [], false, false⟩).data == want) w) := by
  obtain ⟨g, hg, hnc, hcm, hcel⟩ := h.cells (by omega)
  subst hg
  unfold maxLen at hcm
  have q1 : w.cell? ⟨g, i * 4 + 1, none⟩ = some (.slice (vs.getD i (none, 0)).1 (rs.getD i ⟨0, [], false, false⟩).data.length (vs.getD i (none, 0)).2) := by
    rw [show i * 4 + 1 = 4 * i + 1 by omega, hcel i hi 1 (by decide)]
    rfl
  have S1 := Lib.hid (RsI_sl h i hi)
  clear hcel h
  generalize (rs.getD i ⟨0, [], false, false⟩).data = dat at q1 S1 ⊢
  generalize (vs.getD i (none, 0)).1 = av at q1 S1
  generalize (vs.getD i (none, 0)).2 = cv at q1 S1
  obtain ⟨dl, hdl⟩ : ∃ dl, dl = dat.length := ⟨_, rfl⟩
  rw [← hdl] at q1 S1
  have HS := Lib.hid hS
  clear hS hdl
  have hin : (i : Int) < (n : Int) := by omega
  have hind : decide ((i : Int) < (n : Int)) = true := by simp; omega
  have h0 : decide ((0 : Int) ≤ (i : Int)) = true := by simp
  go_enter Try.func23, Try.ntmps23
  go_wp2_with fail
  refine (same_any av ad dl nd cv cd dat want w S1.out HS.out).mono ?_
  rintro e w2 ⟨rfl, f2⟩
  go_wp2_with fail
  go_ret
  exact ⟨rfl, f2⟩

end Go.Proofs.Ytjgdbamlaajkmaa
