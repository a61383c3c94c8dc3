/- Contracts and lemmas, merged: Law, FnActs, Jn. Their conditions stand in each. -/
import Derived.Test.YtkijnpjefccepaaGA
import Derived.Test.YtkijnpjefccepaaGB
import Derived.Test.YtkijnpjefccepaaGC
import Derived.Test.YtkijnpjefccepaaGG
import Derived.Test.YtkijnpjefccepaaGH
import Derived.Laws.OwnMore
section
namespace Go.Proofs.Ytkijnpjefccepaa
open Go.ChangeShapes Go.WideShapes Go.ChangeAt Go.RowKit Go.Sha
theorem sizeAT : (Try.prog.info? 27).map (·.size) = some 4 := by kernel_rfl
theorem own_n (a0 : Option Addr) (n c : Nat) (l : Bs) (w : World) (h : Sl w a0 n c l) (hn : n ≤ 140737488355328) :
    Calls Try.prog 16 #[.slice a0 n c] w fun e w' => ∃ a c', e = .returned (.slice a n c') ∧ Ow w' w.heap.size 5 a c' l ∧ Fr [] w w' := by
  have := own_any a0 n c l w h hn
  unfold RetO at this
  rwa [h.len] at this
/-- a call with bytes in new memory -/
def ActW (k att : Int) (n : Nat) (l : Bs) (w : World) (e : Ending) (w' : World) : Prop := ∃ a c, e = .returned (.agg #[.int .i64 k, .int .i64 att, .int .i64 0, .slice a n c]) ∧ Ow w' w.heap.size 5 a c l ∧ Fr [] w w'

set_option maxRecDepth 100000 in
theorem lwrite_any (att : Int) (a0 : Option Addr) (n c : Nat) (l : Bs) (w : World) (h : Sl w a0 n c l) (hn : n ≤ 140737488355328) :
    Calls Try.prog 17 #[.int .i64 att, .slice a0 n c] w (ActW 0 att n l w) := by
  have f1 : Fr [] w (w.alloc (.cells #[.int .i64 0, .int .i64 0, .int .i64 0, .slice none 0 0] 27)) := (Fr.refl _ _).alloc _
  have B0 : Hid ((w.alloc (.cells #[.int .i64 0, .int .i64 0, .int .i64 0, .slice none 0 0] 27)).heap[w.heap.size]? = some (.cells #[.int .i64 0, .int .i64 0, .int .i64 0, .slice none 0 0] 27 (0, 0))) := Go.heap_alloc_new w _
  have S1 := Lib.hid (h.keep0 f1)
  have z1 : w.heap.size < (w.alloc (.cells #[.int .i64 0, .int .i64 0, .int .i64 0, .slice none 0 0] 27)).heap.size := by simp
  clear h
  go_enter Try.func17, Try.ntmps17
  go_wp2_with fail
  generalize w.alloc (.cells #[.int .i64 0, .int .i64 0, .int .i64 0, .slice none 0 0] 27) = w1 at f1 B0 S1 z1 ⊢
  refine (own_n a0 n c l w1 S1.out hn).mono ?_
  rintro e w2 ⟨a2, c2, rfl, O2, f2⟩
  have HO2 := Lib.hid O2
  have B1 : Hid (w2.heap[w.heap.size]? = some (.cells #[.int .i64 0, .int .i64 0, .int .i64 0, .slice none 0 0] 27 (0, 0))) := f2.obj B0.out (by simp)
  clear O2 B0
  go_wp2_with (refine wpList_store_bits rfl _ _ _ rfl w.heap.size rfl 27 #[.int .i64 0, .int .i64 att, .int .i64 0, .slice a2 n c2] #[.int .i64 0, .int .i64 0, .int .i64 0, .slice none 0 0] rfl B1.out rfl (by intro v hv; simp at hv; rcases hv with rfl | rfl | rfl | rfl <;> rfl) sizeAT ?_; refine Hid.out ?_)
  show wpList _ _ _ _ _ _
  have G9 := Lib.hid (setRow_heap _ _ _ (#[.int .i64 0, .int .i64 att, .int .i64 0, .slice a2 n c2] : Array Value) _ _ B1.out)
  have f9 : Fr [w.heap.size] w2 (w2.setRow w.heap.size #[.int .i64 0, .int .i64 att, .int .i64 0, .slice a2 n c2]) := (Fr.refl _ _).setRow _ _ (.inr (by simp))
  generalize w2.setRow w.heap.size #[.int .i64 0, .int .i64 att, .int .i64 0, .slice a2 n c2] = w9 at G9 f9 ⊢
  go_wp2_with fail
  refine bodyPost_ret (v := .agg #[.int .i64 0, .int .i64 att, .int .i64 0, .slice a2 n c2]) (results_cell_row rfl _ _ w.heap.size _ _ _ _ rfl G9.out Try.underlying27 rfl sizeAT) rfl ?_
  refine ⟨a2, c2, rfl, (HO2.out.keep f9 (fun x hx => by simp; omega)).mono (by omega), (f1.trans f2).via f9 (by simp)⟩

set_option maxRecDepth 100000 in
theorem lplain_any (k att : Int) (w : World) :
    Calls Try.prog 19 #[.int .i64 k, .int .i64 att] w fun e w' => e = .returned (.agg #[.int .i64 k, .int .i64 att, .int .i64 0, .slice none 0 0]) ∧ Fr [] w w' := by
  have f1 : Fr [] w (w.alloc (.cells #[.int .i64 0, .int .i64 0, .int .i64 0, .slice none 0 0] 27)) := (Fr.refl _ _).alloc _
  have B1 : Hid ((w.alloc (.cells #[.int .i64 0, .int .i64 0, .int .i64 0, .slice none 0 0] 27)).heap[w.heap.size]? = some (.cells #[.int .i64 0, .int .i64 0, .int .i64 0, .slice none 0 0] 27 (0, 0))) := Go.heap_alloc_new w _
  go_enter Try.func19, Try.ntmps19
  go_wp2_with (refine wpList_store_bits rfl _ _ _ rfl w.heap.size rfl 27 #[.int .i64 k, .int .i64 att, .int .i64 0, .slice none 0 0] #[.int .i64 0, .int .i64 0, .int .i64 0, .slice none 0 0] rfl B1.out rfl (by intro v hv; simp at hv; rcases hv with rfl | rfl | rfl | rfl <;> rfl) sizeAT ?_; refine Hid.out ?_)
  show wpList _ _ _ _ _ _
  have G9 := Lib.hid (setRow_heap _ _ _ (#[.int .i64 k, .int .i64 att, .int .i64 0, .slice none 0 0] : Array Value) _ _ B1.out)
  have f9 : Fr [w.heap.size] (w.alloc (.cells #[.int .i64 0, .int .i64 0, .int .i64 0, .slice none 0 0] 27)) ((w.alloc (.cells #[.int .i64 0, .int .i64 0, .int .i64 0, .slice none 0 0] 27)).setRow w.heap.size #[.int .i64 k, .int .i64 att, .int .i64 0, .slice none 0 0]) := (Fr.refl _ _).setRow _ _ (.inr (by simp))
  generalize (w.alloc (.cells #[.int .i64 0, .int .i64 0, .int .i64 0, .slice none 0 0] 27)).setRow w.heap.size #[.int .i64 k, .int .i64 att, .int .i64 0, .slice none 0 0] = w9 at G9 f9 ⊢
  go_wp2_with fail
  refine bodyPost_ret (v := .agg #[.int .i64 k, .int .i64 att, .int .i64 0, .slice none 0 0]) (results_cell_row rfl _ _ w.heap.size _ _ _ _ rfl G9.out Try.underlying27 rfl sizeAT) rfl ?_
  exact ⟨rfl, f1.via f9 (by simp)⟩

set_option maxRecDepth 100000 in
theorem lload_any (att pick : Int) (w : World) :
    Calls Try.prog 23 #[.int .i64 att, .int .i64 pick] w fun e w' => e = .returned (.agg #[.int .i64 9, .int .i64 att, .int .i64 pick, .slice none 0 0]) ∧ Fr [] w w' := by
  have f1 : Fr [] w (w.alloc (.cells #[.int .i64 0, .int .i64 0, .int .i64 0, .slice none 0 0] 27)) := (Fr.refl _ _).alloc _
  have B1 : Hid ((w.alloc (.cells #[.int .i64 0, .int .i64 0, .int .i64 0, .slice none 0 0] 27)).heap[w.heap.size]? = some (.cells #[.int .i64 0, .int .i64 0, .int .i64 0, .slice none 0 0] 27 (0, 0))) := Go.heap_alloc_new w _
  go_enter Try.func23, Try.ntmps23
  go_wp2_with (refine wpList_store_bits rfl _ _ _ rfl w.heap.size rfl 27 #[.int .i64 9, .int .i64 att, .int .i64 pick, .slice none 0 0] #[.int .i64 0, .int .i64 0, .int .i64 0, .slice none 0 0] rfl B1.out rfl (by intro v hv; simp at hv; rcases hv with rfl | rfl | rfl | rfl <;> rfl) sizeAT ?_; refine Hid.out ?_)
  show wpList _ _ _ _ _ _
  have G9 := Lib.hid (setRow_heap _ _ _ (#[.int .i64 9, .int .i64 att, .int .i64 pick, .slice none 0 0] : Array Value) _ _ B1.out)
  have f9 : Fr [w.heap.size] (w.alloc (.cells #[.int .i64 0, .int .i64 0, .int .i64 0, .slice none 0 0] 27)) ((w.alloc (.cells #[.int .i64 0, .int .i64 0, .int .i64 0, .slice none 0 0] 27)).setRow w.heap.size #[.int .i64 9, .int .i64 att, .int .i64 pick, .slice none 0 0]) := (Fr.refl _ _).setRow _ _ (.inr (by simp))
  generalize (w.alloc (.cells #[.int .i64 0, .int .i64 0, .int .i64 0, .slice none 0 0] 27)).setRow w.heap.size #[.int .i64 9, .int .i64 att, .int .i64 pick, .slice none 0 0] = w9 at G9 f9 ⊢
  go_wp2_with fail
  refine bodyPost_ret (v := .agg #[.int .i64 9, .int .i64 att, .int .i64 pick, .slice none 0 0]) (results_cell_row rfl _ _ w.heap.size _ _ _ _ rfl G9.out Try.underlying27 rfl sizeAT) rfl ?_
  exact ⟨rfl, f1.via f9 (by simp)⟩

theorem Ow_madeN (w : World) (n e : Nat) (hn : n ≤ maxLen) : Ow (w.alloc (.cells (madeCells #[.int .u8 0] n) e)) w.heap.size e (some ⟨w.heap.size, 0, none⟩) n (List.replicate n 0) := by
  refine ⟨by simp, .inr ⟨w.heap.size, n, madeCells #[.int .u8 0] n, by simp, Nat.le_refl _, Go.heap_alloc_new w _, by simp, hn, by simp [size_madeCells], ?_⟩⟩
  rw [toList_madeCells_one]
  simp [bv]
set_option maxRecDepth 100000 in
theorem lread_any (att : Int) (n : Nat) (w : World) (hn : n ≤ 1099511627776) :
    Calls Try.prog 18 #[.int .i64 att, .int .i64 (n : Int)] w (ActW 1 att n (List.replicate n 0) w) := by
  have hmk := make_bytes n (by omega)
  have z1 : (w.alloc (.cells #[.int .i64 0, .int .i64 0, .int .i64 0, .slice none 0 0] 27)).heap.size = w.heap.size + 1 := by simp
  have f1 : Fr [] w ((w.alloc (.cells #[.int .i64 0, .int .i64 0, .int .i64 0, .slice none 0 0] 27)).alloc (.cells (madeCells #[.int .u8 0] n) 5)) := ((Fr.refl _ _).alloc _).alloc _
  have O2 : Hid (Ow ((w.alloc (.cells #[.int .i64 0, .int .i64 0, .int .i64 0, .slice none 0 0] 27)).alloc (.cells (madeCells #[.int .u8 0] n) 5)) (w.heap.size + 1) 5 (some ⟨w.heap.size + 1, 0, none⟩) n (List.replicate n 0)) := by
    have e := Ow_madeN (w.alloc (.cells #[.int .i64 0, .int .i64 0, .int .i64 0, .slice none 0 0] 27)) n 5 (by unfold maxLen; omega)
    rw [z1] at e
    exact e
  have B1 : Hid (((w.alloc (.cells #[.int .i64 0, .int .i64 0, .int .i64 0, .slice none 0 0] 27)).alloc (.cells (madeCells #[.int .u8 0] n) 5)).heap[w.heap.size]? = some (.cells #[.int .i64 0, .int .i64 0, .int .i64 0, .slice none 0 0] 27 (0, 0))) := ((Fr.refl [] _).alloc _).obj (Go.heap_alloc_new w _) (by simp)
  clear z1
  go_enter Try.func18, Try.ntmps18
  go_wp2_with (refine wpList_store_bits rfl _ _ _ rfl w.heap.size rfl 27 #[.int .i64 1, .int .i64 att, .int .i64 0, .slice (some ⟨w.heap.size + 1, 0, none⟩) n n] #[.int .i64 0, .int .i64 0, .int .i64 0, .slice none 0 0] rfl B1.out rfl (by intro v hv; simp at hv; rcases hv with rfl | rfl | rfl | rfl <;> rfl) sizeAT ?_; refine Hid.out ?_)
  show wpList _ _ _ _ _ _
  have G9 := Lib.hid (setRow_heap _ _ _ (#[.int .i64 1, .int .i64 att, .int .i64 0, .slice (some ⟨w.heap.size + 1, 0, none⟩) n n] : Array Value) _ _ B1.out)
  have f9 : Fr [w.heap.size] ((w.alloc (.cells #[.int .i64 0, .int .i64 0, .int .i64 0, .slice none 0 0] 27)).alloc (.cells (madeCells #[.int .u8 0] n) 5)) (((w.alloc (.cells #[.int .i64 0, .int .i64 0, .int .i64 0, .slice none 0 0] 27)).alloc (.cells (madeCells #[.int .u8 0] n) 5)).setRow w.heap.size #[.int .i64 1, .int .i64 att, .int .i64 0, .slice (some ⟨w.heap.size + 1, 0, none⟩) n n]) := (Fr.refl _ _).setRow _ _ (.inr (by simp))
  generalize ((w.alloc (.cells #[.int .i64 0, .int .i64 0, .int .i64 0, .slice none 0 0] 27)).alloc (.cells (madeCells #[.int .u8 0] n) 5)).setRow w.heap.size #[.int .i64 1, .int .i64 att, .int .i64 0, .slice (some ⟨w.heap.size + 1, 0, none⟩) n n] = w9 at G9 f9 ⊢
  go_wp2_with fail
  refine bodyPost_ret (v := .agg #[.int .i64 1, .int .i64 att, .int .i64 0, .slice (some ⟨w.heap.size + 1, 0, none⟩) n n]) (results_cell_row rfl _ _ w.heap.size _ _ _ _ rfl G9.out Try.underlying27 rfl sizeAT) rfl ?_
  refine ⟨some ⟨w.heap.size + 1, 0, none⟩, n, rfl, (O2.out.keep f9 (fun x hx => by simp; omega)).mono (by omega), f1.via f9 (by simp)⟩

/-- the bytes of a result -/
theorem RsI_sl {w : World} {base : Nat} {S : List Nat} {a : Option Addr} {n c : Nat} {rs : List Res} {vs : List (Option Addr × Nat)} (h : RsI 32 5 w base S a n c rs vs) (i : Nat) (hi : i < n) : Sl w (vs.getD i (none, 0)).1 (rs.getD i ⟨0, [], false, false⟩).data.length (vs.getD i (none, 0)).2 (rs.getD i ⟨0, [], false, false⟩).data := (h.own i hi).sl
attribute [local irreducible] wpStill in
set_option maxHeartbeats 400000 in
theorem tells_any (w : World) (base : Nat) (S : List Nat) (a : Option Addr) (n c : Nat) (rs : List Res) (vs : List (Option Addr × Nat)) (i : Nat) (ad : Option Addr) (nd cd : Nat) (want : Bs) (h : RsI 32 5 w base S a n c rs vs) (hi : i < n) (hS : Sl w ad nd cd want) :
    Calls Try.prog 26 #[.slice a n c, .int .i64 (i : Int), .slice ad nd cd] w (RetB ((rs.getD i ⟨0, [], false, false⟩).data == want) w) := by
  obtain ⟨g, hg, hnc, hcm, hcel⟩ := h.cells (by omega)
  subst hg
  unfold maxLen at hcm
  have q1 : w.cell? ⟨g, i * 4 + 1, none⟩ = some (.slice (vs.getD i (none, 0)).1 (rs.getD i ⟨0, [], false, false⟩).data.length (vs.getD i (none, 0)).2) := by
    rw [show i * 4 + 1 = 4 * i + 1 by omega, hcel i hi 1 (by decide)]
    rfl
  have S1 := Lib.hid (RsI_sl h i hi)
  clear hcel h
  generalize (rs.getD i ⟨0, [], false, false⟩).data = dat at q1 S1 ⊢
  generalize (vs.getD i (none, 0)).1 = av at q1 S1
  generalize (vs.getD i (none, 0)).2 = cv at q1 S1
  obtain ⟨dl, hdl⟩ : ∃ dl, dl = dat.length := ⟨_, rfl⟩
  rw [← hdl] at q1 S1
  have HS := Lib.hid hS
  clear hS hdl
  have hin : (i : Int) < (n : Int) := by omega
  have hind : decide ((i : Int) < (n : Int)) = true := by simp; omega
  have h0 : decide ((0 : Int) ≤ (i : Int)) = true := by simp
  go_enter Try.func26, Try.ntmps26
  go_wp2_with fail
  refine (same_any av ad dl nd cv cd dat want w S1.out HS.out).mono ?_
  rintro e w2 ⟨rfl, f2⟩
  go_wp2_with fail
  go_ret
  exact ⟨rfl, f2⟩

end Go.Proofs.Ytkijnpjefccepaa
end

section
namespace Go.Sha
open Go.RowKit
theorem Sl.nil0 (w : World) : Sl w none 0 0 [] := ⟨rfl, Nat.le_refl _, by simp [maxLen], .inl rfl⟩
def acCells (p : Actn × (Option Addr × Nat × Nat)) : List Value := [.int .i64 p.1.k, .int .i64 p.1.at_, .int .i64 p.1.pick, .slice p.2.1 p.2.2.1 p.2.2.2]
/-- a list of calls that was just built -/
theorem ActsAt.of_list {w : World} {g T : Nat} (xs : List (Actn × (Option Addr × Nat × Nat))) (h : w.heap[g]? = some (.cells (xs.flatMap acCells).toArray T (0, 0))) (hS : ∀ p ∈ xs, Sl w p.2.1 p.2.2.1 p.2.2.2 p.1.data ∧ p.2.2.1 ≤ 140737488351232) (hm : xs.length ≤ maxLen) :
    ActsAt w (some ⟨g, 0, none⟩) xs.length xs.length (xs.map (·.1)) := by
  refine ⟨by simp, Nat.le_refl _, hm, .inr ⟨g, 0, rfl, fun i hi => ?_⟩⟩
  have hx : xs[i]? = some xs[i] := List.getElem?_eq_getElem hi
  have hd : (xs.map (·.1)).getD i ⟨0, 0, 0, []⟩ = xs[i].1 := by simp [List.getD_eq_getElem?_getD, hx]
  rw [hd]
  have hc : ∀ j, j < 4 → w.cell? ⟨g, 0 + 4 * i + j, none⟩ = (acCells xs[i])[j]? := fun j hj => by
    rw [Nat.zero_add, cell_of h, List.getElem?_toArray, flatMap_get4 acCells (fun _ => rfl) _ _ _ hj, hx]
    rfl
  have hp := hS xs[i] (List.getElem_mem hi)
  exact ⟨_, _, _, hc 0 (by decide), hc 1 (by decide), hc 2 (by decide), hc 3 (by decide), hp.1, hp.2⟩
end Go.Sha
namespace Go.Proofs.Ytkijnpjefccepaa
open Go.ChangeShapes Go.WideShapes Go.ChangeAt Go.RowKit Go.Sha
theorem RsI_cell {w : World} {base : Nat} {S : List Nat} {g n c : Nat} {rs : List Res} {vs : List (Option Addr × Nat)} (h : RsI 32 5 w base S (some ⟨g, 0, none⟩) n c rs vs) (i j : Nat) (hi : i < n) (hj : j < 4) : w.cell? ⟨g, 4 * i + j, none⟩ = (resCells (rs.getD i ⟨0, [], false, false⟩, vs.getD i (none, 0)))[j]? := by
  obtain ⟨g', hg, _, _, hc⟩ := h.cells (by omega)
  simp only [Option.some.injEq, Addr.mk.injEq] at hg
  obtain ⟨rfl, _, _⟩ := hg
  exact hc i hi j hj
theorem tells_t (w : World) (base : Nat) (S : List Nat) (a : Option Addr) (n c : Nat) (rs : List Res) (vs : List (Option Addr × Nat)) (i : Nat) (ad : Option Addr) (nd cd : Nat) (want : Bs) (h : RsI 32 5 w base S a n c rs vs) (hi : i < n) (hS : Sl w ad nd cd want) (he : (rs.getD i ⟨0, [], false, false⟩).data = want) :
    Calls Try.prog 26 #[.slice a n c, .int .i64 (i : Int), .slice ad nd cd] w (RetB true w) := by
  have := tells_any w base S a n c rs vs i ad nd cd want h hi hS
  rwa [show ((rs.getD i ⟨0, [], false, false⟩).data == want) = true by rw [he]; simp] at this
end Go.Proofs.Ytkijnpjefccepaa
end

section
namespace Go.Proofs.Ytkijnpjefccepaa
open Go.ChangeShapes Go.WideShapes Go.ChangeAt Go.RowKit Go.Sha
theorem joined_any (a0 b0 : Option Addr) (n m ca cb : Nat) (x y : Bs) (w : World) (hx : Sl w a0 n ca x) (hy : Sl w b0 m cb y) (hn : n + m ≤ 140737488355328) :
    Calls Try.prog 21 #[.slice a0 n ca, .slice b0 m cb] w fun e w' => ∃ a c, e = .returned (.slice a (n + m) c) ∧ Ow w' w.heap.size 5 a c (x ++ y) ∧ Fr [] w w' := by
  obtain ⟨i0, hi, hz0, hz1, hz2⟩ := info_parts info5
  have HX := Lib.hid hx
  have HY := Lib.hid hy
  clear hx hy
  go_enter Try.func21, Try.ntmps21
  go_wp2_with fail
  refine (own_n a0 n ca x w HX.out (by omega)).mono ?_
  rintro e w1 ⟨a1, c1, rfl, o1, f1⟩
  obtain ⟨xs, hxs⟩ : ∃ xs, xs = x.map bv := ⟨_, rfl⟩
  obtain ⟨ys, hys⟩ : ∃ ys, ys = y.map bv := ⟨_, rfl⟩
  have O1 : Hid (w1.ownsRow w.heap.size 5 1 (.slice a1 n c1) n xs) := by rw [hxs]; exact Ow.row' o1 HX.out.len
  have Y1 : Hid (Src Try.prog 1 22 (.slice b0 m cb) m ys w1) := by rw [hys]; exact (HY.out.keep0 f1).src Try.underlying22
  have HO := Lib.hid o1
  have HXY := Lib.hid (And.intro hxs hys)
  have X1 : Hid (n + m ≤ maxLen) := by show _ ≤ _; unfold maxLen; omega
  have X2 : Hid ((n + m) * 1 ≤ 140737488355328) := by show _ ≤ _; omega
  have X3 : Hid (w.heap.size ≤ w1.heap.size) := f1.size
  clear hxs hys o1
  go_wp2_with (at_builtin; refine wpList_append_src _ rfl _ _ 22 22 rfl w.heap.size 5 i0 (.int .u8 0) 1 1 Try.underlying22 hi hz0 hz1 hz2 rfl a1 n c1 xs rfl O1.out _ m ys rfl Y1.out X1.out X2.out X3.out ?_)
  intro a2 c2 w2 ho hg
  have F2 : Fr [] w w2 := f1.grown hg (fun q hq => .inl (HO.out.own_ge (n := n) q (by rw [hq]; simp)))
  have O2 : Ow w2 w.heap.size 5 a2 c2 (x ++ y) := Ow.of ho (by rw [List.length_append, HX.out.len, HY.out.len]) (by rw [HXY.out.1, HXY.out.2, List.map_append])
  have H2 := Lib.hid O2
  clear ho hg O2 O1 Y1 X1 X2 X3
  go_wp2_with fail
  go_ret
  exact ⟨a2, c2, rfl, H2.out, F2⟩
end Go.Proofs.Ytkijnpjefccepaa
end
