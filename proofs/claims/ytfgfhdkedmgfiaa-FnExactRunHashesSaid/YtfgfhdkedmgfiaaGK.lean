/- Contracts and lemmas, merged: ActB, RunP. Their conditions stand in each. -/
import Derived.Test.YtfgfhdkedmgfiaaGA
import Derived.Test.YtfgfhdkedmgfiaaGB
import Derived.Test.YtfgfhdkedmgfiaaGC
import Derived.Test.YtfgfhdkedmgfiaaGG
import Derived.Test.YtfgfhdkedmgfiaaGH
import Derived.Test.YtfgfhdkedmgfiaaGP
section
namespace Go.Proofs.Ytfgfhdkedmgfiaa
open Go.ChangeShapes Go.WideShapes Go.ChangeAt Go.RowKit Go.Sha

set_option maxRecDepth 100000 in
set_option maxHeartbeats 600000 in
theorem act_reset (w : World) (base hb : Nat) (kind : Int) (r o : Nat) (all saved : List Bs) (bs : List Nat) (ss : List (Nat × Nat)) (a1 a2 : Option Addr) (c1 c2 : Nat) (S : List Nat) (ad : Option Addr) (nd cd : Nat) (data : Bs) (k att pick : Int) (h : HI 60 56 22 86 w base hb kind r o all saved bs ss a1 c1 a2 c2 S) (hS : Sl w ad nd cd data) (hnd : nd ≤ 140737488351232) (hall : all.length ≤ 3000000000000) (hkm : k % 10 = ((2 : Nat) : Int)) :
    Calls Try.prog 39 #[.pointer (some ⟨hb, 0, none⟩), .agg #[.int .i64 k, .int .i64 att, .int .i64 pick, .slice ad nd cd]] w (ActR base hb kind r o (stepH r o all saved ⟨k, att, pick, data⟩) S w) := by
  have hA0 := A1.start h hS k att pick
  obtain ⟨i, hi⟩ : ∃ i, i = ix att all.length := ⟨_, rfl⟩
  have hil : i < all.length := by rw [hi]; exact ix_lt _ _ h.pos
  have HIX : Hid (att % ((all.length : Nat) : Int) = (i : Int)) := by rw [hi]; exact ix_int _ _ h.pos
  have HII := Lib.hid hi
  have HKM : Hid (k % 10 = ((2 : Nat) : Int)) := hkm
  clear hi hkm
  obtain ⟨ga, hga, hac, hacm, _⟩ := HI_row h
  obtain ⟨b, hb0⟩ : ∃ b, b = bs.getD i 0 := ⟨_, rfl⟩
  obtain ⟨n, hnl⟩ : ∃ n, n = all.length := ⟨_, rfl⟩
  have hrt := Lib.hid h.rt
  have hapos := h.pos
  have HBB : Hid (bs.getD i 0 = b) := hb0.symm
  have HNL : Hid (all.length = n) := hnl.symm
  have HGA := Lib.hid hga
  rw [← hnl] at hil hac hapos hall HIX
  have hin : (i : Int) < (n : Int) := by omega
  have HIL : Hid (i < all.length) := by show _ < _; rw [HNL.out]; exact hil
  clear hb0 hnl
  have t0 : ((2 : Int) == 0) = false := by decide
  have t1 : ((2 : Int) == 1) = false := by decide
  have t2 : ((2 : Int) == 2) = true := by decide
  subst hga
  have HH := Lib.hid h
  have HS := Lib.hid hS
  clear h hS
  go_enter Try.func39, Try.ntmps39
  go_wp2_with fail
  have R0 := hA0.keep (Fr.refl _ _).drew
  go_region_held3 (fun w' => w'.cell? ⟨hb, 1, none⟩ = some (.slice (some ⟨ga, 0, none⟩) n c1) ∧ w'.cell? ⟨w.heap.size, 1, none⟩ = some (.int .i64 att) ∧ w'.cell? ⟨w.heap.size, 3, none⟩ = some (.slice ad nd cd) ∧ w'.cell? ⟨ga, i, none⟩ = some (.pointer (some ⟨b, 0, none⟩)) ∧ A1 w base hb kind r o all saved bs ss (some ⟨ga, 0, none⟩) a2 c1 c2 S ad nd cd data k att pick w')
    (first | (exact R0.held HIL.out rfl HBB.out HNL.out) | (exact (R0.keep f5).held HIL.out rfl HBB.out HNL.out) | (go_keep))
    (first | (go_at_call 56; refine (place_nat att n i _ (by omega) (by omega) HIX.out).mono ?_; rintro e w4 ⟨rfl, rfl⟩) | (go_at_call 61; refine (copied_n ad nd cd data _ R0.sl (by omega)).mono ?_; rintro e w5 ⟨ao, co, rfl, O5, f5⟩))
  have R5 := R0.keep f5
  have q0 : w5.cell? ⟨w.heap.size, 0, none⟩ = some (.int .i64 k) := by rw [cell_of R5.b1]; rfl
  have OW5 : Hid (Ow w5 (w.heap.size + 1 + 1) 5 ao co data) := by
    have e5 := O5
    rw [show (((w.alloc (.cells #[.int .i64 k, .int .i64 att, .int .i64 pick, .slice ad nd cd] 26)).alloc (.cells #[.int .i64 0, .slice none 0 0, .bool false, .bool false] 31)).drew).heap.size = w.heap.size + 1 + 1 by simp [World.drew]] at e5
    exact e5
  have H5 := Lib.hid R5
  clear O5 R5 R0 hA0 f5
  go_wp2_with fail
  refine (place_nat k 10 2 _ (by decide) (by decide) HKM.out).mono ?_
  rintro e w5 ⟨rfl, rfl⟩
  clear q0
  have hs5 : Hid (HsAt w5 b 86 r o (all.getD i [])) := by have := H5.out.hi.hs i HIL.out; rw [HBB.out] at this; exact this
  have hbS : b ∈ S := by rw [← HBB.out]; exact HH.out.bsS _ (getD_mem (by rw [HH.out.bl]; exact HIL.out))
  have hbw : b < w.heap.size := HH.out.lt_of hbS
  have HBS := Lib.hid hbS
  clear hbS
  go_wp2_with fail
  refine (shaReset_any w5 b r o _ hrt.out hs5.out).mono ?_
  rintro e w6 ⟨rfl, D6, f6⟩
  have HD6 := Lib.hid D6
  clear D6
  have G6 : Hid (w6.heap[w.heap.size + 1]? = some (.cells #[.int .i64 0, .slice none 0 0, .bool false, .bool false] 31 (0, 0))) := f6.obj H5.out.b2 (by simp; omega)
  go_wp2_with (refine wpList_store_bits rfl _ _ _ rfl (w.heap.size + 1) rfl 31 #[.int .i64 0, .slice none 0 0, .bool false, .bool false] #[.int .i64 0, .slice none 0 0, .bool false, .bool false] rfl G6.out rfl (by intro v hv; simp at hv; rcases hv with rfl | rfl | rfl | rfl <;> rfl) sizeRT ?_; refine Hid.out ?_)
  show wpList _ _ _ _ _ _
  have G9 := Lib.hid (setRow_heap _ _ _ (#[.int .i64 0, .slice none 0 0, .bool false, .bool false] : Array Value) _ _ G6.out)
  have f9 : Fr [w.heap.size + 1] w6 (w6.setRow (w.heap.size + 1) #[.int .i64 0, .slice none 0 0, .bool false, .bool false]) := (Fr.refl _ _).setRow _ _ (.inr (by simp))
  generalize w6.setRow (w.heap.size + 1) #[.int .i64 0, .slice none 0 0, .bool false, .bool false] = w9 at G9 f9 ⊢
  go_wp2_with fail
  refine bodyPost_ret (v := .agg #[.int .i64 0, .slice none 0 0, .bool false, .bool false]) (results_cell_row rfl _ _ (w.heap.size + 1) _ _ _ _ rfl G9.out Try.underlying31 rfl sizeRT) rfl ?_
  have F9 : Fr S w w9 := Fr_trans_new ((H5.out.fr.mono (by simp)).trans (f6.mono (fun x _ hx => by simp at hx; rw [hx]; exact HBS.out)) : Fr S w w6) f9 (by simp)
  have K9 : HI 60 56 22 86 w9 base hb kind r o (all.set i []) saved bs ss (some ⟨ga, 0, none⟩) c1 a2 c2 S := HI_keepNew (H5.out.hi.upd i HIL.out ([]) (by rw [HBB.out]; exact f6) (by rw [HBB.out]; exact .inl HD6.out)) f9 (newOk HH.out)
  have e9 : ix k 10 = 2 := by unfold ix; have := HKM.out; omega
  refine ⟨none, 0, S, ?_, ?_, ?_, F9, fun x hx => .inl hx, fun y hy => by cases hy⟩
  · simp only [stepH, e9]; rfl
  · simp only [stepH, e9]; exact Ow.nil _ _ _
  · simp only [stepH, e9]; exact ⟨_, _, _, _, _, _, by rw [← HII.out]; exact K9⟩

set_option maxRecDepth 100000 in
set_option maxHeartbeats 600000 in
theorem act_write (w : World) (base hb : Nat) (kind : Int) (r o : Nat) (all saved : List Bs) (bs : List Nat) (ss : List (Nat × Nat)) (a1 a2 : Option Addr) (c1 c2 : Nat) (S : List Nat) (ad : Option Addr) (nd cd : Nat) (data : Bs) (k att pick : Int) (h : HI 60 56 22 86 w base hb kind r o all saved bs ss a1 c1 a2 c2 S) (hS : Sl w ad nd cd data) (hnd : nd ≤ 140737488351232) (hall : all.length ≤ 3000000000000) (hkm : k % 10 = ((0 : Nat) : Int)) :
    Calls Try.prog 39 #[.pointer (some ⟨hb, 0, none⟩), .agg #[.int .i64 k, .int .i64 att, .int .i64 pick, .slice ad nd cd]] w (ActR base hb kind r o (stepH r o all saved ⟨k, att, pick, data⟩) S w) := by
  have hA0 := A1.start h hS k att pick
  obtain ⟨i, hi⟩ : ∃ i, i = ix att all.length := ⟨_, rfl⟩
  have hil : i < all.length := by rw [hi]; exact ix_lt _ _ h.pos
  have HIX : Hid (att % ((all.length : Nat) : Int) = (i : Int)) := by rw [hi]; exact ix_int _ _ h.pos
  have HII := Lib.hid hi
  have HKM : Hid (k % 10 = ((0 : Nat) : Int)) := hkm
  clear hi hkm
  obtain ⟨ga, hga, hac, hacm, _⟩ := HI_row h
  obtain ⟨b, hb0⟩ : ∃ b, b = bs.getD i 0 := ⟨_, rfl⟩
  obtain ⟨n, hnl⟩ : ∃ n, n = all.length := ⟨_, rfl⟩
  have hrt := Lib.hid h.rt
  have hapos := h.pos
  have HBB : Hid (bs.getD i 0 = b) := hb0.symm
  have HNL : Hid (all.length = n) := hnl.symm
  have HGA := Lib.hid hga
  rw [← hnl] at hil hac hapos hall HIX
  have hin : (i : Int) < (n : Int) := by omega
  have HIL : Hid (i < all.length) := by show _ < _; rw [HNL.out]; exact hil
  clear hb0 hnl
  have t0 : ((0 : Int) == 0) = true := by decide
  subst hga
  have HH := Lib.hid h
  have HS := Lib.hid hS
  clear h hS
  go_enter Try.func39, Try.ntmps39
  go_wp2_with fail
  have R0 := hA0.keep (Fr.refl _ _).drew
  go_region_held3 (fun w' => w'.cell? ⟨hb, 1, none⟩ = some (.slice (some ⟨ga, 0, none⟩) n c1) ∧ w'.cell? ⟨w.heap.size, 1, none⟩ = some (.int .i64 att) ∧ w'.cell? ⟨w.heap.size, 3, none⟩ = some (.slice ad nd cd) ∧ w'.cell? ⟨ga, i, none⟩ = some (.pointer (some ⟨b, 0, none⟩)) ∧ A1 w base hb kind r o all saved bs ss (some ⟨ga, 0, none⟩) a2 c1 c2 S ad nd cd data k att pick w')
    (first | (exact R0.held HIL.out rfl HBB.out HNL.out) | (exact (R0.keep f5).held HIL.out rfl HBB.out HNL.out) | (go_keep))
    (first | (go_at_call 56; refine (place_nat att n i _ (by omega) (by omega) HIX.out).mono ?_; rintro e w4 ⟨rfl, rfl⟩) | (go_at_call 61; refine (copied_n ad nd cd data _ R0.sl (by omega)).mono ?_; rintro e w5 ⟨ao, co, rfl, O5, f5⟩))
  have R5 := R0.keep f5
  have q0 : w5.cell? ⟨w.heap.size, 0, none⟩ = some (.int .i64 k) := by rw [cell_of R5.b1]; rfl
  have OW5 : Hid (Ow w5 (w.heap.size + 1 + 1) 5 ao co data) := by
    have e5 := O5
    rw [show (((w.alloc (.cells #[.int .i64 k, .int .i64 att, .int .i64 pick, .slice ad nd cd] 26)).alloc (.cells #[.int .i64 0, .slice none 0 0, .bool false, .bool false] 31)).drew).heap.size = w.heap.size + 1 + 1 by simp [World.drew]] at e5
    exact e5
  have H5 := Lib.hid R5
  clear O5 R5 R0 hA0 f5
  go_wp2_with fail
  refine (place_nat k 10 0 _ (by decide) (by decide) HKM.out).mono ?_
  rintro e w5 ⟨rfl, rfl⟩
  clear q0
  have hs5 : Hid (HsAt w5 b 86 r o (all.getD i [])) := by have := H5.out.hi.hs i HIL.out; rw [HBB.out] at this; exact this
  have hbS : b ∈ S := by rw [← HBB.out]; exact HH.out.bsS _ (getD_mem (by rw [HH.out.bl]; exact HIL.out))
  have hbw : b < w.heap.size := HH.out.lt_of hbS
  have HBS := Lib.hid hbS
  clear hbS
  go_wp2_with fail
  have O5 : Hid (Ow w5 (w.heap.size + 1 + 1) 5 ao co data) := OW5.out
  refine (shaWrite_any w5 b r o _ ao nd co data hrt.out hs5.out (O5.out.sl_at HS.out.len) (fun x hx hn => by subst hx; have := O5.out.block.2.2.1; omega)).mono ?_
  rintro e w6 ⟨rfl, D6, f6⟩
  have HD6 := Lib.hid D6
  clear D6
  have G6 : Hid (w6.heap[w.heap.size + 1]? = some (.cells #[.int .i64 0, .slice none 0 0, .bool false, .bool false] 31 (0, 0))) := f6.obj H5.out.b2 (by simp; omega)
  go_wp2_with (refine wpList_store_bits rfl _ _ _ rfl (w.heap.size + 1) rfl 31 #[.int .i64 (nd : Int), .slice ao nd co, .bool true, .bool false] #[.int .i64 0, .slice none 0 0, .bool false, .bool false] rfl G6.out rfl (by intro v hv; simp at hv; rcases hv with rfl | rfl | rfl | rfl <;> rfl) sizeRT ?_; refine Hid.out ?_)
  show wpList _ _ _ _ _ _
  have G9 := Lib.hid (setRow_heap _ _ _ (#[.int .i64 (nd : Int), .slice ao nd co, .bool true, .bool false] : Array Value) _ _ G6.out)
  have f9 : Fr [w.heap.size + 1] w6 (w6.setRow (w.heap.size + 1) #[.int .i64 (nd : Int), .slice ao nd co, .bool true, .bool false]) := (Fr.refl _ _).setRow _ _ (.inr (by simp))
  generalize w6.setRow (w.heap.size + 1) #[.int .i64 (nd : Int), .slice ao nd co, .bool true, .bool false] = w9 at G9 f9 ⊢
  go_wp2_with fail
  refine bodyPost_ret (v := .agg #[.int .i64 (nd : Int), .slice ao nd co, .bool true, .bool false]) (results_cell_row rfl _ _ (w.heap.size + 1) _ _ _ _ rfl G9.out Try.underlying31 rfl sizeRT) rfl ?_
  have F9 : Fr S w w9 := Fr_trans_new ((H5.out.fr.mono (by simp)).trans (f6.mono (fun x _ hx => by simp at hx; rw [hx]; exact HBS.out)) : Fr S w w6) f9 (by simp)
  have K9 : HI 60 56 22 86 w9 base hb kind r o (all.set i (all.getD i [] ++ data)) saved bs ss (some ⟨ga, 0, none⟩) c1 a2 c2 S := HI_keepNew (H5.out.hi.upd i HIL.out _ (by rw [HBB.out]; exact f6) (by rw [HBB.out]; exact .inl HD6.out)) f9 (newOk HH.out)
  have e9 : ix k 10 = 0 := by unfold ix; have := HKM.out; omega
  have O9 : Ow w9 (w.heap.size + 1 + 1) 5 ao co data := (O5.out.keep f6 (fun x hx => by simp; omega)).keep f9 (fun x hx => by simp; omega)
  refine ⟨ao, co, S, ?_, ?_, ?_, F9, fun x hx => .inl hx, fun y hy hm => ?_⟩
  · simp only [stepH, e9]; rw [HS.out.len]
  · simp only [stepH, e9]; exact O9.mono (by omega)
  · simp only [stepH, e9]; exact ⟨_, _, _, _, _, _, by rw [← HII.out]; exact K9⟩
  · subst hy
    have := O9.block.2.2.1
    have := HH.out.lt_of hm
    omega

set_option maxRecDepth 100000 in
set_option maxHeartbeats 600000 in
theorem act_sum (w : World) (base hb : Nat) (kind : Int) (r o : Nat) (all saved : List Bs) (bs : List Nat) (ss : List (Nat × Nat)) (a1 a2 : Option Addr) (c1 c2 : Nat) (S : List Nat) (ad : Option Addr) (nd cd : Nat) (data : Bs) (k att pick : Int) (h : HI 60 56 22 86 w base hb kind r o all saved bs ss a1 c1 a2 c2 S) (hS : Sl w ad nd cd data) (hnd : nd ≤ 140737488351232) (hall : all.length ≤ 3000000000000) (hkm : k % 10 = ((1 : Nat) : Int)) :
    Calls Try.prog 39 #[.pointer (some ⟨hb, 0, none⟩), .agg #[.int .i64 k, .int .i64 att, .int .i64 pick, .slice ad nd cd]] w (ActR base hb kind r o (stepH r o all saved ⟨k, att, pick, data⟩) S w) := by
  have hA0 := A1.start h hS k att pick
  obtain ⟨i, hi⟩ : ∃ i, i = ix att all.length := ⟨_, rfl⟩
  have hil : i < all.length := by rw [hi]; exact ix_lt _ _ h.pos
  have HIX : Hid (att % ((all.length : Nat) : Int) = (i : Int)) := by rw [hi]; exact ix_int _ _ h.pos
  have HII := Lib.hid hi
  have HKM : Hid (k % 10 = ((1 : Nat) : Int)) := hkm
  clear hi hkm
  obtain ⟨ga, hga, hac, hacm, _⟩ := HI_row h
  obtain ⟨b, hb0⟩ : ∃ b, b = bs.getD i 0 := ⟨_, rfl⟩
  obtain ⟨n, hnl⟩ : ∃ n, n = all.length := ⟨_, rfl⟩
  have hrt := Lib.hid h.rt
  have hapos := h.pos
  have HBB : Hid (bs.getD i 0 = b) := hb0.symm
  have HNL : Hid (all.length = n) := hnl.symm
  have HGA := Lib.hid hga
  rw [← hnl] at hil hac hapos hall HIX
  have hin : (i : Int) < (n : Int) := by omega
  have HIL : Hid (i < all.length) := by show _ < _; rw [HNL.out]; exact hil
  clear hb0 hnl
  have t0 : ((1 : Int) == 0) = false := by decide
  have t1 : ((1 : Int) == 1) = true := by decide
  subst hga
  have HH := Lib.hid h
  have HS := Lib.hid hS
  clear h hS
  go_enter Try.func39, Try.ntmps39
  go_wp2_with fail
  have R0 := hA0.keep (Fr.refl _ _).drew
  go_region_held3 (fun w' => w'.cell? ⟨hb, 1, none⟩ = some (.slice (some ⟨ga, 0, none⟩) n c1) ∧ w'.cell? ⟨w.heap.size, 1, none⟩ = some (.int .i64 att) ∧ w'.cell? ⟨w.heap.size, 3, none⟩ = some (.slice ad nd cd) ∧ w'.cell? ⟨ga, i, none⟩ = some (.pointer (some ⟨b, 0, none⟩)) ∧ A1 w base hb kind r o all saved bs ss (some ⟨ga, 0, none⟩) a2 c1 c2 S ad nd cd data k att pick w')
    (first | (exact R0.held HIL.out rfl HBB.out HNL.out) | (exact (R0.keep f5).held HIL.out rfl HBB.out HNL.out) | (go_keep))
    (first | (go_at_call 56; refine (place_nat att n i _ (by omega) (by omega) HIX.out).mono ?_; rintro e w4 ⟨rfl, rfl⟩) | (go_at_call 61; refine (copied_n ad nd cd data _ R0.sl (by omega)).mono ?_; rintro e w5 ⟨ao, co, rfl, O5, f5⟩))
  have R5 := R0.keep f5
  have q0 : w5.cell? ⟨w.heap.size, 0, none⟩ = some (.int .i64 k) := by rw [cell_of R5.b1]; rfl
  have OW5 : Hid (Ow w5 (w.heap.size + 1 + 1) 5 ao co data) := by
    have e5 := O5
    rw [show (((w.alloc (.cells #[.int .i64 k, .int .i64 att, .int .i64 pick, .slice ad nd cd] 26)).alloc (.cells #[.int .i64 0, .slice none 0 0, .bool false, .bool false] 31)).drew).heap.size = w.heap.size + 1 + 1 by simp [World.drew]] at e5
    exact e5
  have H5 := Lib.hid R5
  clear O5 R5 R0 hA0 f5
  go_wp2_with fail
  refine (place_nat k 10 1 _ (by decide) (by decide) HKM.out).mono ?_
  rintro e w5 ⟨rfl, rfl⟩
  clear q0
  have hs5 : Hid (HsAt w5 b 86 r o (all.getD i [])) := by have := H5.out.hi.hs i HIL.out; rw [HBB.out] at this; exact this
  have hbS : b ∈ S := by rw [← HBB.out]; exact HH.out.bsS _ (getD_mem (by rw [HH.out.bl]; exact HIL.out))
  have hbw : b < w.heap.size := HH.out.lt_of hbS
  have HBS := Lib.hid hbS
  clear hbS
  go_wp2_with fail
  have O5 : Hid (Ow w5 (w.heap.size + 1 + 1) 5 ao co data) := OW5.out
  have hb5 : w.heap.size + 1 + 1 ≤ w5.heap.size := by have := (Array.getElem?_eq_some_iff.1 H5.out.b2).1; omega
  refine (shaSum_any w5 b r o _ ao nd co (w.heap.size + 1 + 1) data hrt.out hs5.out HS.out.len O5.out hb5 (by omega) (by omega)).mono ?_
  rintro e w6 ⟨a6, c6, w6a, rfl, o6, D6, f6a, b6⟩
  have HD6 := Lib.hid D6
  have OX6 := Lib.hid o6
  clear D6 o6
  have G6 : Hid (w6.heap[w.heap.size + 1]? = some (.cells #[.int .i64 0, .slice none 0 0, .bool false, .bool false] 31 (0, 0))) := by
    have e1 := f6a.obj H5.out.b2 (show w.heap.size + 1 ∉ [b] by simp; omega)
    show _ = _
    rw [b6.block (w.heap.size + 1) (by omega)]
    exact e1
  go_wp2_with (refine wpList_store_bits rfl _ _ _ rfl (w.heap.size + 1) rfl 31 #[.int .i64 0, .slice a6 (nd + o) c6, .bool false, .bool false] #[.int .i64 0, .slice none 0 0, .bool false, .bool false] rfl G6.out rfl (by intro v hv; simp at hv; rcases hv with rfl | rfl | rfl | rfl <;> rfl) sizeRT ?_; refine Hid.out ?_)
  show wpList _ _ _ _ _ _
  have G9 := Lib.hid (setRow_heap _ _ _ (#[.int .i64 0, .slice a6 (nd + o) c6, .bool false, .bool false] : Array Value) _ _ G6.out)
  have f9 : Fr [w.heap.size + 1] w6 (w6.setRow (w.heap.size + 1) #[.int .i64 0, .slice a6 (nd + o) c6, .bool false, .bool false]) := (Fr.refl _ _).setRow _ _ (.inr (by simp))
  generalize w6.setRow (w.heap.size + 1) #[.int .i64 0, .slice a6 (nd + o) c6, .bool false, .bool false] = w9 at G9 f9 ⊢
  go_wp2_with fail
  refine bodyPost_ret (v := .agg #[.int .i64 0, .slice a6 (nd + o) c6, .bool false, .bool false]) (results_cell_row rfl _ _ (w.heap.size + 1) _ _ _ _ rfl G9.out Try.underlying31 rfl sizeRT) rfl ?_
  have F6 : Fr S w w6 := (((H5.out.fr.mono (by simp)).trans f6a : Fr [b] w w6a).of_belowB b6 (by omega)).mono (fun x _ hx => by simp at hx; rw [hx]; exact HBS.out)
  have F9 : Fr S w w9 := Fr_trans_new F6 f9 (by simp)
  have K6a := H5.out.hi.upd i HIL.out (all.getD i []) (by rw [HBB.out]; exact f6a) (by rw [HBB.out]; exact .inl HD6.out)
  rw [set_getD] at K6a
  have K6 : HI 60 56 22 86 w6 base hb kind r o all saved bs ss (some ⟨ga, 0, none⟩) c1 a2 c2 S := HI_below K6a b6 (fun x hx => by have := HH.out.lt_of hx; omega) (fun j hj => by have := (HH.out.sv j hj).1.lt (x := ⟨(ss.getD j (0, 0)).1, 0, none⟩) rfl (by decide); simp only at this; omega)
  have K9 : HI 60 56 22 86 w9 base hb kind r o all saved bs ss (some ⟨ga, 0, none⟩) c1 a2 c2 S := HI_keepNew K6 f9 (newOk HH.out)
  have e9 : ix k 10 = 1 := by unfold ix; have := HKM.out; omega
  have O9 : Ow w9 (w.heap.size + 1 + 1) 5 a6 c6 (data ++ hsum r o (all.getD i [])) := OX6.out.keep f9 (fun x hx => by simp; omega)
  refine ⟨a6, c6, S, ?_, ?_, ?_, F9, fun x hx => .inl hx, fun y hy hm => ?_⟩
  · simp only [stepH, e9]; rw [← HII.out, List.length_append, HS.out.len, hsum_length]
  · simp only [stepH, e9]; rw [← HII.out]; exact O9.mono (by omega)
  · simp only [stepH, e9]; exact ⟨_, _, _, _, _, _, K9⟩
  · subst hy
    have := O9.block.2.2.1
    have := HH.out.lt_of hm
    omega

end Go.Proofs.Ytfgfhdkedmgfiaa
end

section
namespace Go.Sha
open Go.RowKit
def goH (r o : Nat) (s : List Res × List Bs × List Bs) (x : Actn) : List Res × List Bs × List Bs := (s.1 ++ [(stepH r o s.2.1 s.2.2 x).1], (stepH r o s.2.1 s.2.2 x).2)
def runS (r o : Nat) (xs : List Actn) : List Res × List Bs × List Bs := xs.foldl (goH r o) ([], [[]], [])
/-- the results of a script -/
def runH (r o : Nat) (xs : List Actn) : List Res := (runS r o xs).1
theorem runS_snoc (r o : Nat) (xs : List Actn) (x : Actn) : runS r o (xs ++ [x]) = goH r o (runS r o xs) x := by simp [runS]
theorem stepH_len (r o : Nat) (all saved : List Bs) (x : Actn) : all.length ≤ (stepH r o all saved x).2.1.length ∧ (stepH r o all saved x).2.1.length ≤ all.length + 1 ∧ (stepH r o all saved x).2.2.length ≤ saved.length + 1 := by
  unfold stepH
  split <;> try (simp; done)
  split <;> simp
theorem fold_len (r o : Nat) (xs : List Actn) : ∀ s : List Res × List Bs × List Bs, (xs.foldl (goH r o) s).1.length = s.1.length + xs.length ∧ s.2.1.length ≤ (xs.foldl (goH r o) s).2.1.length ∧ (xs.foldl (goH r o) s).2.1.length ≤ s.2.1.length + xs.length ∧ (xs.foldl (goH r o) s).2.2.length ≤ s.2.2.length + xs.length := by
  induction xs with
  | nil => intro s; simp
  | cons x xs ih =>
    intro s
    have h := stepH_len r o s.2.1 s.2.2 x
    have h2 := ih (goH r o s x)
    simp only [List.foldl_cons, List.length_cons]
    simp only [goH, List.length_append, List.length_cons, List.length_nil] at h2 ⊢
    omega
theorem runS_len (r o : Nat) (xs : List Actn) : (runS r o xs).1.length = xs.length ∧ 0 < (runS r o xs).2.1.length ∧ (runS r o xs).2.1.length ≤ xs.length + 1 ∧ (runS r o xs).2.2.length ≤ xs.length := by
  have h := fold_len r o xs ([], [[]], [])
  simp only [List.length_nil, List.length_cons] at h
  unfold runS
  omega
end Go.Sha
end
