/- One call of a script over hashes: Load. No condition but on lengths. -/
import Derived.Test.YtjgdbamlaajkmaaActD
namespace Go.Proofs.Ytjgdbamlaajkmaa
open Go.ChangeShapes Go.WideShapes Go.ChangeAt Go.RowKit Go.Sha
theorem set4 {w : World} {x T : Nat} {u0 u1 u2 u3 : Value} (h : w.heap[x]? = some (.cells #[u0, u1, u2, u3] T (0, 0))) (v0 v1 v2 v3 : Value) :
    ((((w.setCell ⟨x, 0, none⟩ v0).setCell ⟨x, 1, none⟩ v1).setCell ⟨x, 2, none⟩ v2).setCell ⟨x, 3, none⟩ v3).heap[x]? = some (.cells #[v0, v1, v2, v3] T (0, 0)) ∧ Fr [x] w ((((w.setCell ⟨x, 0, none⟩ v0).setCell ⟨x, 1, none⟩ v1).setCell ⟨x, 2, none⟩ v2).setCell ⟨x, 3, none⟩ v3) := by
  refine ⟨?_, ((((Fr.refl _ _).setCell _ _ (.inr (by simp))).setCell _ _ (.inr (by simp))).setCell _ _ (.inr (by simp))).setCell _ _ (.inr (by simp))⟩
  rw [Go.Sha.heap_setCell_same (Go.Sha.heap_setCell_same (Go.Sha.heap_setCell_same (Go.Sha.heap_setCell_same h v0) v1) v2) v3]
  simp
theorem HI_srow {w : World} {base hb : Nat} {kind : Int} {r o : Nat} {all saved : List Bs} {bs : List Nat} {ss : List (Nat × Nat)} {a1 a2 : Option Addr} {c1 c2 : Nat} {S : List Nat} (h : HI 50 45 22 60 w base hb kind r o all saved bs ss a1 c1 a2 c2 S) (hp : 0 < saved.length) :
    ∃ ga, a2 = some ⟨ga, 0, none⟩ ∧ saved.length ≤ c2 ∧ c2 ≤ 9223372036854775807 ∧ ∀ i, i < saved.length → w.cell? ⟨ga, i, none⟩ = some (slv (ss.getD i (0, 0))) := by
  rcases h.rowS.2 with ⟨h2, h0⟩ | ⟨g, cap, cur, hv, hb', hg, hn, hm, hs, ht⟩
  · omega
  · simp only [Value.slice.injEq] at hv
    obtain ⟨rfl, _, rfl⟩ := hv
    refine ⟨g, rfl, hn, by unfold maxLen at hm; omega, fun i hi => ?_⟩
    have h4 : (cur.toList.take (saved.length * 1))[i]? = (ss.map slv)[i]? := by rw [ht]
    have h5 : (ss.map slv)[i]? = some (slv (ss.getD i (0, 0))) := by
      rw [List.getElem?_map, List.getD_eq_getElem?_getD, List.getElem?_eq_getElem (l := ss) (by rw [h.sl]; exact hi)]
      rfl
    rw [List.getElem?_take_of_lt (by omega), h5, Array.getElem?_toList] at h4
    simp only [World.cell?, hg]
    exact h4

set_option maxRecDepth 100000 in
set_option maxHeartbeats 600000 in
theorem act_load0 (w : World) (base hb : Nat) (kind : Int) (r o : Nat) (all saved : List Bs) (bs : List Nat) (ss : List (Nat × Nat)) (a1 a2 : Option Addr) (c1 c2 : Nat) (S : List Nat) (ad : Option Addr) (nd cd : Nat) (data : Bs) (k att pick : Int) (h : HI 50 45 22 60 w base hb kind r o all saved bs ss a1 c1 a2 c2 S) (hS : Sl w ad nd cd data) (hnd : nd ≤ 140737488351232) (hall : all.length ≤ 1099511627776) (hsv : saved.length = 0) (hkm : k % 10 = ((9 : Nat) : Int)) :
    Calls Try.prog 28 #[.pointer (some ⟨hb, 0, none⟩), .agg #[.int .i64 k, .int .i64 att, .int .i64 pick, .slice ad nd cd]] w (ActR base hb kind r o (stepH r o all saved ⟨k, att, pick, data⟩) S w) := by
  have HSV := Lib.hid hsv
  clear hsv
  have hA0 := A1.start h hS k att pick
  obtain ⟨i, hi⟩ : ∃ i, i = ix att all.length := ⟨_, rfl⟩
  have hil : i < all.length := by rw [hi]; exact ix_lt _ _ h.pos
  have HIX : Hid (att % ((all.length : Nat) : Int) = (i : Int)) := by rw [hi]; exact ix_int _ _ h.pos
  have HII := Lib.hid hi
  have HKM : Hid (k % 10 = ((9 : Nat) : Int)) := hkm
  clear hi hkm
  obtain ⟨ga, hga, hac, hacm, _⟩ := HI_row h
  obtain ⟨b, hb0⟩ : ∃ b, b = bs.getD i 0 := ⟨_, rfl⟩
  obtain ⟨n, hnl⟩ : ∃ n, n = all.length := ⟨_, rfl⟩
  have hrt := Lib.hid h.rt
  have hapos := h.pos
  have HBB : Hid (bs.getD i 0 = b) := hb0.symm
  have HNL : Hid (all.length = n) := hnl.symm
  have HGA := Lib.hid hga
  rw [← hnl] at hil hac hapos hall HIX
  have hin : (i : Int) < (n : Int) := by omega
  have HIL : Hid (i < all.length) := by show _ < _; rw [HNL.out]; exact hil
  clear hb0 hnl
  have t0 : ((9 : Int) == 0) = false := by decide
  have t1 : ((9 : Int) == 1) = false := by decide
  have t2 : ((9 : Int) == 2) = false := by decide
  have t3 : ((9 : Int) == 3) = false := by decide
  have t4 : ((9 : Int) == 4) = false := by decide
  have t5 : ((9 : Int) == 5) = false := by decide
  have t6 : ((9 : Int) == 6) = false := by decide
  have t7 : ((9 : Int) == 7) = false := by decide
  have t8 : ((9 : Int) == 8) = false := by decide
  have t9 : ((9 : Int) == 9) = true := by decide
  subst hga
  have HH := Lib.hid h
  have HS := Lib.hid hS
  clear h hS
  go_enter Try.func28, Try.ntmps28
  go_wp2_with fail
  have R0 := hA0.keep (Fr.refl _ _).drew
  go_region_held3 (fun w' => w'.cell? ⟨hb, 1, none⟩ = some (.slice (some ⟨ga, 0, none⟩) n c1) ∧ w'.cell? ⟨w.heap.size, 1, none⟩ = some (.int .i64 att) ∧ w'.cell? ⟨w.heap.size, 3, none⟩ = some (.slice ad nd cd) ∧ w'.cell? ⟨ga, i, none⟩ = some (.pointer (some ⟨b, 0, none⟩)) ∧ A1 w base hb kind r o all saved bs ss (some ⟨ga, 0, none⟩) a2 c1 c2 S ad nd cd data k att pick w')
    (first | (exact R0.held HIL.out rfl HBB.out HNL.out) | (exact (R0.keep f5).held HIL.out rfl HBB.out HNL.out) | (go_keep))
    (first | (go_at_call 31; refine (place_nat att n i _ (by omega) (by omega) HIX.out).mono ?_; rintro e w4 ⟨rfl, rfl⟩) | (go_at_call 36; refine (copied_n ad nd cd data _ R0.sl (by omega)).mono ?_; rintro e w5 ⟨ao, co, rfl, O5, f5⟩))
  have R5 := R0.keep f5
  have q0 : w5.cell? ⟨w.heap.size, 0, none⟩ = some (.int .i64 k) := by rw [cell_of R5.b1]; rfl
  have OW5 : Hid (Ow w5 (w.heap.size + 1 + 1) 5 ao co data) := by
    have e5 := O5
    rw [show (((w.alloc (.cells #[.int .i64 k, .int .i64 att, .int .i64 pick, .slice ad nd cd] 26)).alloc (.cells #[.int .i64 0, .slice none 0 0, .bool false, .bool false] 31)).drew).heap.size = w.heap.size + 1 + 1 by simp [World.drew]] at e5
    exact e5
  have H5 := Lib.hid R5
  clear O5 R5 R0 hA0 f5
  go_wp2_with fail
  refine (place_nat k 10 9 _ (by decide) (by decide) HKM.out).mono ?_
  rintro e w5 ⟨rfl, rfl⟩
  clear q0
  have hs5 : Hid (HsAt w5 b 60 r o (all.getD i [])) := by have := H5.out.hi.hs i HIL.out; rw [HBB.out] at this; exact this
  have hbS : b ∈ S := by rw [← HBB.out]; exact HH.out.bsS _ (getD_mem (by rw [HH.out.bl]; exact HIL.out))
  have hbw : b < w.heap.size := HH.out.lt_of hbS
  have HBS := Lib.hid hbS
  clear hbS
  have qs := (saved_cell H5.out.hi HSV.out).1
  have G5 := Lib.hid H5.out.b2
  go_wp2_with (refine wpList_store_bits rfl _ _ _ rfl (w.heap.size + 1) rfl 31 #[.int .i64 0, .slice none 0 0, .bool false, .bool false] #[.int .i64 0, .slice none 0 0, .bool false, .bool false] rfl G5.out rfl (by intro v hv; simp at hv; rcases hv with rfl | rfl | rfl | rfl <;> rfl) sizeRT ?_; refine Hid.out ?_)
  show wpList _ _ _ _ _ _
  have G9 := Lib.hid (setRow_heap _ _ _ (#[.int .i64 0, .slice none 0 0, .bool false, .bool false] : Array Value) _ _ G5.out)
  have f9 : Fr [w.heap.size + 1] w5 (w5.setRow (w.heap.size + 1) #[.int .i64 0, .slice none 0 0, .bool false, .bool false]) := (Fr.refl _ _).setRow _ _ (.inr (by simp))
  generalize w5.setRow (w.heap.size + 1) #[.int .i64 0, .slice none 0 0, .bool false, .bool false] = w9 at G9 f9 ⊢
  go_wp2_with fail
  refine bodyPost_ret (v := .agg #[.int .i64 0, .slice none 0 0, .bool false, .bool false]) (results_cell_row rfl _ _ (w.heap.size + 1) _ _ _ _ rfl G9.out Try.underlying31 rfl sizeRT) rfl ?_
  have F9 : Fr S w w9 := Fr_trans_new (H5.out.fr.mono (by simp) : Fr S w w5) f9 (by simp)
  have K9 := HI_keepNew H5.out.hi f9 (newOk HH.out)
  have e9 : ix k 10 = 9 := by unfold ix; have := HKM.out; omega
  refine ⟨none, 0, S, ?_, ?_, ?_, F9, fun x hx => .inl hx, fun y hy => by cases hy⟩
  · simp only [stepH, e9, HSV.out, if_true]; rfl
  · simp only [stepH, e9, HSV.out, if_true]; exact Ow.nil _ _ _
  · simp only [stepH, e9, HSV.out, if_true]; exact ⟨_, _, _, _, _, _, K9⟩


end Go.Proofs.Ytjgdbamlaajkmaa
