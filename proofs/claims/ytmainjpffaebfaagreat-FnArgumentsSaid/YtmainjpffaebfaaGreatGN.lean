/- Contracts and lemmas, merged: Law, FnActs, Jn. Their conditions stand in each. -/
import Derived.Test.YtmainjpffaebfaaGreatGA
import Derived.Test.YtmainjpffaebfaaGreatGB
import Derived.Test.YtmainjpffaebfaaGreatGC
import Derived.Test.YtmainjpffaebfaaGreatGG
import Derived.Test.YtmainjpffaebfaaGreatGH
import Derived.Laws.OwnMore
section
namespace Go.Proofs.YtmainjpffaebfaaGreat
open Go.ChangeShapes Go.WideShapes Go.ChangeAt Go.RowKit Go.Sha
theorem sizeAT : (Tryz.prog.info? 26).map (·.size) = some 4 := by kernel_rfl
theorem own_n (a0 : Option Addr) (n c : Nat) (l : Bs) (w : World) (h : Sl w a0 n c l) (hn : n ≤ 140737488355328) :
    Calls Tryz.prog 7 #[.slice a0 n c] w fun e w' => ∃ a c', e = .returned (.slice a n c') ∧ Ow w' w.heap.size 5 a c' l ∧ Fr [] w w' := by
  have := own_any a0 n c l w h hn
  unfold RetO at this
  rwa [h.len] at this
/-- a call with bytes in new memory -/
def ActW (k att : Int) (n : Nat) (l : Bs) (w : World) (e : Ending) (w' : World) : Prop := ∃ a c, e = .returned (.agg #[.int .i64 k, .int .i64 att, .int .i64 0, .slice a n c]) ∧ Ow w' w.heap.size 5 a c l ∧ Fr [] w w'

set_option maxRecDepth 100000 in
theorem lwrite_any (att : Int) (a0 : Option Addr) (n c : Nat) (l : Bs) (w : World) (h : Sl w a0 n c l) (hn : n ≤ 140737488355328) :
    Calls Tryz.prog 5 #[.int .i64 att, .slice a0 n c] w (ActW 0 att n l w) := by
  have f1 : Fr [] w (w.alloc (.cells #[.int .i64 0, .int .i64 0, .int .i64 0, .slice none 0 0] 26)) := (Fr.refl _ _).alloc _
  have B0 : Hid ((w.alloc (.cells #[.int .i64 0, .int .i64 0, .int .i64 0, .slice none 0 0] 26)).heap[w.heap.size]? = some (.cells #[.int .i64 0, .int .i64 0, .int .i64 0, .slice none 0 0] 26 (0, 0))) := Go.heap_alloc_new w _
  have S1 := Lib.hid (h.keep0 f1)
  have z1 : w.heap.size < (w.alloc (.cells #[.int .i64 0, .int .i64 0, .int .i64 0, .slice none 0 0] 26)).heap.size := by simp
  clear h
  go_enter Tryz.func5, Tryz.ntmps5
  go_wp2_with fail
  generalize w.alloc (.cells #[.int .i64 0, .int .i64 0, .int .i64 0, .slice none 0 0] 26) = w1 at f1 B0 S1 z1 ⊢
  refine (own_n a0 n c l w1 S1.out hn).mono ?_
  rintro e w2 ⟨a2, c2, rfl, O2, f2⟩
  have HO2 := Lib.hid O2
  have B1 : Hid (w2.heap[w.heap.size]? = some (.cells #[.int .i64 0, .int .i64 0, .int .i64 0, .slice none 0 0] 26 (0, 0))) := f2.obj B0.out (by simp)
  clear O2 B0
  go_wp2_with (refine wpList_store_bits rfl _ _ _ rfl w.heap.size rfl 26 #[.int .i64 0, .int .i64 att, .int .i64 0, .slice a2 n c2] #[.int .i64 0, .int .i64 0, .int .i64 0, .slice none 0 0] rfl B1.out rfl (by intro v hv; simp at hv; rcases hv with rfl | rfl | rfl | rfl <;> rfl) sizeAT ?_; refine Hid.out ?_)
  show wpList _ _ _ _ _ _
  have G9 := Lib.hid (setRow_heap _ _ _ (#[.int .i64 0, .int .i64 att, .int .i64 0, .slice a2 n c2] : Array Value) _ _ B1.out)
  have f9 : Fr [w.heap.size] w2 (w2.setRow w.heap.size #[.int .i64 0, .int .i64 att, .int .i64 0, .slice a2 n c2]) := (Fr.refl _ _).setRow _ _ (.inr (by simp))
  generalize w2.setRow w.heap.size #[.int .i64 0, .int .i64 att, .int .i64 0, .slice a2 n c2] = w9 at G9 f9 ⊢
  go_wp2_with fail
  refine bodyPost_ret (v := .agg #[.int .i64 0, .int .i64 att, .int .i64 0, .slice a2 n c2]) (results_cell_row rfl _ _ w.heap.size _ _ _ _ rfl G9.out Tryz.underlying26 rfl sizeAT) rfl ?_
  refine ⟨a2, c2, rfl, (HO2.out.keep f9 (fun x hx => by simp; omega)).mono (by omega), (f1.trans f2).via f9 (by simp)⟩

theorem Ow_madeN (w : World) (n e : Nat) (hn : n ≤ maxLen) : Ow (w.alloc (.cells (madeCells #[.int .u8 0] n) e)) w.heap.size e (some ⟨w.heap.size, 0, none⟩) n (List.replicate n 0) := by
  refine ⟨by simp, .inr ⟨w.heap.size, n, madeCells #[.int .u8 0] n, by simp, Nat.le_refl _, Go.heap_alloc_new w _, by simp, hn, by simp [size_madeCells], ?_⟩⟩
  rw [toList_madeCells_one]
  simp [bv]
/-- the bytes of a result -/
theorem RsI_sl {w : World} {base : Nat} {S : List Nat} {a : Option Addr} {n c : Nat} {rs : List Res} {vs : List (Option Addr × Nat)} (h : RsI 43 5 w base S a n c rs vs) (i : Nat) (hi : i < n) : Sl w (vs.getD i (none, 0)).1 (rs.getD i ⟨0, [], false, false⟩).data.length (vs.getD i (none, 0)).2 (rs.getD i ⟨0, [], false, false⟩).data := (h.own i hi).sl
attribute [local irreducible] wpStill in
set_option maxHeartbeats 400000 in
theorem tells_any (w : World) (base : Nat) (S : List Nat) (a : Option Addr) (n c : Nat) (rs : List Res) (vs : List (Option Addr × Nat)) (i : Nat) (ad : Option Addr) (nd cd : Nat) (want : Bs) (h : RsI 43 5 w base S a n c rs vs) (hi : i < n) (hS : Sl w ad nd cd want) :
    Calls Tryz.prog 10 #[.slice a n c, .int .i64 (i : Int), .slice ad nd cd] w (RetB ((rs.getD i ⟨0, [], false, false⟩).data == want) w) := by
  obtain ⟨g, hg, hnc, hcm, hcel⟩ := h.cells (by omega)
  subst hg
  unfold maxLen at hcm
  have q1 : w.cell? ⟨g, i * 4 + 1, none⟩ = some (.slice (vs.getD i (none, 0)).1 (rs.getD i ⟨0, [], false, false⟩).data.length (vs.getD i (none, 0)).2) := by
    rw [show i * 4 + 1 = 4 * i + 1 by omega, hcel i hi 1 (by decide)]
    rfl
  have S1 := Lib.hid (RsI_sl h i hi)
  clear hcel h
  generalize (rs.getD i ⟨0, [], false, false⟩).data = dat at q1 S1 ⊢
  generalize (vs.getD i (none, 0)).1 = av at q1 S1
  generalize (vs.getD i (none, 0)).2 = cv at q1 S1
  obtain ⟨dl, hdl⟩ : ∃ dl, dl = dat.length := ⟨_, rfl⟩
  rw [← hdl] at q1 S1
  have HS := Lib.hid hS
  clear hS hdl
  have hin : (i : Int) < (n : Int) := by omega
  have hind : decide ((i : Int) < (n : Int)) = true := by simp; omega
  have h0 : decide ((0 : Int) ≤ (i : Int)) = true := by simp
  go_enter Tryz.func10, Tryz.ntmps10
  go_wp2_with fail
  refine (same_any av ad dl nd cv cd dat want w S1.out HS.out).mono ?_
  rintro e w2 ⟨rfl, f2⟩
  go_wp2_with fail
  go_ret
  exact ⟨rfl, f2⟩

end Go.Proofs.YtmainjpffaebfaaGreat
end

section
namespace Go.Sha
open Go.RowKit
theorem Sl.nil0 (w : World) : Sl w none 0 0 [] := ⟨rfl, Nat.le_refl _, by simp [maxLen], .inl rfl⟩
def acCells (p : Actn × (Option Addr × Nat × Nat)) : List Value := [.int .i64 p.1.k, .int .i64 p.1.at_, .int .i64 p.1.pick, .slice p.2.1 p.2.2.1 p.2.2.2]
/-- a list of calls that was just built -/
theorem ActsAt.of_list {w : World} {g T : Nat} (xs : List (Actn × (Option Addr × Nat × Nat))) (h : w.heap[g]? = some (.cells (xs.flatMap acCells).toArray T (0, 0))) (hS : ∀ p ∈ xs, Sl w p.2.1 p.2.2.1 p.2.2.2 p.1.data ∧ p.2.2.1 ≤ 140737488351232) (hm : xs.length ≤ maxLen) :
    ActsAt w (some ⟨g, 0, none⟩) xs.length xs.length (xs.map (·.1)) := by
  refine ⟨by simp, Nat.le_refl _, hm, .inr ⟨g, 0, rfl, fun i hi => ?_⟩⟩
  have hx : xs[i]? = some xs[i] := List.getElem?_eq_getElem hi
  have hd : (xs.map (·.1)).getD i ⟨0, 0, 0, []⟩ = xs[i].1 := by simp [List.getD_eq_getElem?_getD, hx]
  rw [hd]
  have hc : ∀ j, j < 4 → w.cell? ⟨g, 0 + 4 * i + j, none⟩ = (acCells xs[i])[j]? := fun j hj => by
    rw [Nat.zero_add, cell_of h, List.getElem?_toArray, flatMap_get4 acCells (fun _ => rfl) _ _ _ hj, hx]
    rfl
  have hp := hS xs[i] (List.getElem_mem hi)
  exact ⟨_, _, _, hc 0 (by decide), hc 1 (by decide), hc 2 (by decide), hc 3 (by decide), hp.1, hp.2⟩
end Go.Sha
namespace Go.Proofs.YtmainjpffaebfaaGreat
open Go.ChangeShapes Go.WideShapes Go.ChangeAt Go.RowKit Go.Sha
theorem RsI_cell {w : World} {base : Nat} {S : List Nat} {g n c : Nat} {rs : List Res} {vs : List (Option Addr × Nat)} (h : RsI 43 5 w base S (some ⟨g, 0, none⟩) n c rs vs) (i j : Nat) (hi : i < n) (hj : j < 4) : w.cell? ⟨g, 4 * i + j, none⟩ = (resCells (rs.getD i ⟨0, [], false, false⟩, vs.getD i (none, 0)))[j]? := by
  obtain ⟨g', hg, _, _, hc⟩ := h.cells (by omega)
  simp only [Option.some.injEq, Addr.mk.injEq] at hg
  obtain ⟨rfl, _, _⟩ := hg
  exact hc i hi j hj
theorem tells_t (w : World) (base : Nat) (S : List Nat) (a : Option Addr) (n c : Nat) (rs : List Res) (vs : List (Option Addr × Nat)) (i : Nat) (ad : Option Addr) (nd cd : Nat) (want : Bs) (h : RsI 43 5 w base S a n c rs vs) (hi : i < n) (hS : Sl w ad nd cd want) (he : (rs.getD i ⟨0, [], false, false⟩).data = want) :
    Calls Tryz.prog 10 #[.slice a n c, .int .i64 (i : Int), .slice ad nd cd] w (RetB true w) := by
  have := tells_any w base S a n c rs vs i ad nd cd want h hi hS
  rwa [show ((rs.getD i ⟨0, [], false, false⟩).data == want) = true by rw [he]; simp] at this
end Go.Proofs.YtmainjpffaebfaaGreat
end

section
namespace Go.Proofs.YtmainjpffaebfaaGreat
open Go.ChangeShapes Go.WideShapes Go.ChangeAt Go.RowKit Go.Sha
end Go.Proofs.YtmainjpffaebfaaGreat
end
