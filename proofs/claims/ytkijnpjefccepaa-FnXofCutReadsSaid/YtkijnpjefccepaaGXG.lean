/- Contracts and lemmas, merged: Xcc. Their conditions stand in each. -/
import Derived.Test.YtkijnpjefccepaaGA
import Derived.Test.YtkijnpjefccepaaGB
import Derived.Test.YtkijnpjefccepaaGC
import Derived.Test.YtkijnpjefccepaaGG
import Derived.Test.YtkijnpjefccepaaGH
import Derived.Test.YtkijnpjefccepaaGX
import Derived.Test.YtkijnpjefccepaaGY
import Derived.Test.YtkijnpjefccepaaGXA
import Derived.Test.YtkijnpjefccepaaGXB
import Derived.Test.YtkijnpjefccepaaGXI
import Derived.Test.YtkijnpjefccepaaGXK
section
namespace Go.Proofs.Ytkijnpjefccepaa
open Go.ChangeShapes Go.WideShapes Go.ChangeAt Go.RowKit Go.Sha

set_option maxRecDepth 100000 in
set_option maxHeartbeats 6000000 in
theorem xact_clone (w : World) (base hb : Nat) (kind : Int) (p : XP) (q : NC) (all saved : List XS) (bs : List Nat) (ss : List (Nat × Nat)) (a1 a2 : Option Addr) (c1 c2 : Nat) (S : List Nat) (ad : Option Addr) (nd cd : Nat) (data : Bs) (k att pick : Int) (h : XI 54 49 22 72 w base hb kind p q all saved bs ss a1 c1 a2 c2 S) (hS : Sl w ad nd cd data) (hnd : nd ≤ 140737488351232) (hall : all.length ≤ 3000000000000) (hkp : p = xpOf (k5 kind) q.name q.cust) (hqn : q.nn ≤ 140737488351232) (hqc : q.nc ≤ 140737488351232) (hkm : k % 10 = ((5 : Nat) : Int)) :
    Calls Try.prog 30 #[.pointer (some ⟨hb, 0, none⟩), .agg #[.int .i64 k, .int .i64 att, .int .i64 pick, .slice ad nd cd]] w (XActR base hb kind p q (stepX p all saved ⟨k, att, pick, data⟩) S w) := by
  have hA0 := B1.start h hS k att pick
  obtain ⟨i, hi⟩ : ∃ i, i = ix att all.length := ⟨_, rfl⟩
  have hil : i < all.length := by rw [hi]; exact ix_lt _ _ h.pos
  have HIX : Hid (att % ((all.length : Nat) : Int) = (i : Int)) := by rw [hi]; exact ix_int _ _ h.pos
  have HII := Lib.hid hi
  have HKM : Hid (k % 10 = ((5 : Nat) : Int)) := hkm
  clear hi hkm
  obtain ⟨ga, hga, hac, hacm, _⟩ := XI_row h
  obtain ⟨b, hb0⟩ : ∃ b, b = bs.getD i 0 := ⟨_, rfl⟩
  obtain ⟨n, hnl⟩ : ∃ n, n = all.length := ⟨_, rfl⟩
  have hrt := Lib.hid h.rt
  have hapos := h.pos
  have HBB : Hid (bs.getD i 0 = b) := hb0.symm
  have HNL : Hid (all.length = n) := hnl.symm
  have HGA := Lib.hid hga
  rw [← hnl] at hil hac hapos hall HIX
  have hin : (i : Int) < (n : Int) := by omega
  have HIL : Hid (i < all.length) := by show _ < _; rw [HNL.out]; exact hil
  clear hb0 hnl
  have t0 : ((5 : Int) == 0) = false := by decide
  have t1 : ((5 : Int) == 1) = false := by decide
  have t2 : ((5 : Int) == 2) = false := by decide
  have t4 : ((5 : Int) == 4) = false := by decide
  have t5 : ((5 : Int) == 5) = true := by decide
  subst hga
  have HH := Lib.hid h
  have HS := Lib.hid hS
  clear h hS
  go_enter Try.func30, Try.ntmps30
  go_wp2_with fail
  have R0 := hA0.keep (Fr.refl _ _).drew
  go_region_held3 (fun w' => w'.cell? ⟨hb, 3, none⟩ = some (.slice (some ⟨ga, 0, none⟩) n c1) ∧ w'.cell? ⟨w.heap.size, 1, none⟩ = some (.int .i64 att) ∧ w'.cell? ⟨w.heap.size, 3, none⟩ = some (.slice ad nd cd) ∧ w'.cell? ⟨ga, i, none⟩ = some (.pointer (some ⟨b, 0, none⟩)) ∧ B1 w base hb kind p q all saved bs ss (some ⟨ga, 0, none⟩) a2 c1 c2 S ad nd cd data k att pick w')
    (first | (exact R0.held HIL.out rfl HBB.out HNL.out) | (exact (R0.keep f5).held HIL.out rfl HBB.out HNL.out) | (go_keep))
    (first | (go_at_call 36; refine (place_nat att n i _ (by omega) (by omega) HIX.out).mono ?_; rintro e w4 ⟨rfl, rfl⟩) | (go_at_call 40; refine (copied_n ad nd cd data _ R0.sl (by omega)).mono ?_; rintro e w5 ⟨ao, co, rfl, O5, f5⟩))
  have R5 := R0.keep f5
  have q0 : w5.cell? ⟨w.heap.size, 0, none⟩ = some (.int .i64 k) := by rw [cell_of R5.b1]; rfl
  have OW5 : Hid (Ow w5 (w.heap.size + 1 + 1) 5 ao co data) := by
    have e5 := O5
    rw [show (((w.alloc (.cells #[.int .i64 k, .int .i64 att, .int .i64 pick, .slice ad nd cd] 27)).alloc (.cells #[.int .i64 0, .slice none 0 0, .bool false, .bool false] 32)).drew).heap.size = w.heap.size + 1 + 1 by simp [World.drew]] at e5
    exact e5
  have H5 := Lib.hid R5
  clear O5 R5 R0 hA0 f5
  go_wp2_with fail
  refine (place_nat k 10 5 _ (by decide) (by decide) HKM.out).mono ?_
  rintro e w5 ⟨rfl, rfl⟩
  clear q0
  obtain ⟨xi, hxi⟩ : ∃ xi, xi = all.getD i ⟨[], none⟩ := ⟨_, rfl⟩
  have HXI := Lib.hid hxi
  have hs5 : Hid (XsAt w5 b 72 p S xi) := by have := H5.out.hi.hs i HIL.out; rw [HBB.out, ← hxi] at this; exact this
  clear hxi
  have hbS : b ∈ S := by rw [← HBB.out]; exact HH.out.bsS _ (getD_mem (by rw [HH.out.bl]; exact HIL.out))
  have hbw : b < w.heap.size := HH.out.lt_of hbS
  have HBS := Lib.hid hbS
  clear hbS
  have hb5 : w.heap.size + 1 + 1 ≤ w5.heap.size := by have := (Array.getElem?_eq_some_iff.1 H5.out.b2).1; omega
  go_wp2_with fail
  obtain ⟨i0, hi0, hz0, hz1, hz2⟩ := info_parts infoPX
  have H5d : XI 54 49 22 72 w5.drew base hb kind p q all saved bs ss (some ⟨ga, 0, none⟩) c1 a2 c2 S := H5.out.hi.keep0 (Fr.refl _ _).drew
  have q1 := (xkind_cell H5d HNL.out).1
  have q2 := (xkind_cell H5d HNL.out).2.1
  have q3 := (xkind_cell H5d HNL.out).2.2.1
  have q4 := (xkind_cell H5d HNL.out).2.2.2.1
  have HKP := Lib.hid hkp
  have HD5 := Lib.hid H5d
  clear H5d hkp
  have hbase := (HH.out.Slt hb HH.out.hbS)
  have NX := Lib.hid (newXof_any kind q.an q.ac q.nn q.cn q.nc q.cc q.name q.cust w5.drew HD5.out.nc.nm HD5.out.nc.cu hqn hqc)
  rw [← HKP.out] at NX
  generalize hqan : Value.slice q.an q.nn q.cn = vn at q2 NX
  generalize hqac : Value.slice q.ac q.nc q.cc = vc at q3 NX
  clear hqan hqac
  go_region_law (first
    | (go_simp; go_at_call 29; refine NX.out.mono ?_; rintro e w6 ⟨g, rfl, hg1, hg2, h6, f6⟩; have q5 := (xkind_cell (HD5.out.keep0 f6) HNL.out).2.2.2.1; have q6 := (xkind_cell ((HD5.out.keep0 f6).keep0 ((Fr.refl [] _).alloc (.cells #[.pointer (some ⟨g, 0, none⟩)] 49))) HNL.out).2.2.2.1; have H6 := Lib.hid (HD5.out.keep0 f6); have HS6 := Lib.hid h6; have hsz6 : w5.heap.size ≤ w6.heap.size := f6.size; clear h6)
    | (refine step_append_srcN _ rfl _ _ 51 51 rfl base 49 i0 (.pointer none) 1 8 Try.underlying51 hi0 hz0 hz1 hz2 rfl (some ⟨ga, 0, none⟩) n c1 (bs.map ptr) rfl (by have := (H6.out.keep0 ((Fr.refl _ _).alloc (.cells #[.pointer (some ⟨g, 0, none⟩)] 49))).rowA; rw [HNL.out] at this; exact this) _ 1 [ptr g] rfl (Src_oneX Try.underlying51 (ptr g) rfl 49) (by unfold maxLen; omega) (by omega) (by simp; omega) ?_; intro a7 c7 w7 ho hg ha; have q8 := xgrown_blk (H6.out.keep0 ((Fr.refl _ _).alloc (.cells #[.pointer (some ⟨g, 0, none⟩)] 49))) HNL.out hg))
  all_goals
    have hw6 : w.heap.size ≤ w6.heap.size := by omega
    have hS5 : ∀ k ∈ S, k < w5.drew.heap.size := fun k hk => HD5.out.lt_of hk
    have P7 := XI.push HD5.out (wB := w6.alloc (.cells #[.pointer (some ⟨g, 0, none⟩)] 49)) (wC := w7) (g := g) (c1' := c7) (a1' := a7) (data := ⟨p.hd, none⟩) (f6.trans ((Fr.refl _ _).alloc _)) ((HS6.out S hS5).keep ((Fr.refl [] _).alloc _) (by simp) (by simp)) hg1 (Nat.le_trans (Nat.le_of_lt hbase.2 |> Nat.le_trans hbase.1) (Nat.le_trans H5.out.fr.size (Nat.le_refl _))) (by rw [HNL.out]; exact ho) (by rw [HNL.out]; exact hg) ha
    rw [HNL.out] at P7
    have HP7 := Lib.hid P7
    have hsub := xpush_sub (wB := w6.alloc (.cells #[.pointer (some ⟨g, 0, none⟩)] 49)) (g := g) (N := w.heap.size + 1 + 1) ha HD5.out.a1S (by have : w5.heap.size ≤ g := hg1; omega) (by simp; omega)
    have HSUB := Lib.hid hsub
    clear P7 ho hg q1 q2 q3 q4 q5 q6 q8 hsub
    generalize w7.setCell ⟨hb, 3, none⟩ (.slice a7 (n + 1) c7) = w8 at HP7 ⊢
    have G8 : Hid (w8.heap[w.heap.size + 1]? = some (.cells #[.int .i64 0, .slice none 0 0, .bool false, .bool false] 32 (0, 0))) := HP7.out.2.obj H5.out.b2 (fun hm => by have := HH.out.lt_of hm; omega)
    go_wp2_with (refine wpList_store_bits rfl _ _ _ rfl (w.heap.size + 1) rfl 32 #[.int .i64 0, .slice none 0 0, .bool false, .bool false] #[.int .i64 0, .slice none 0 0, .bool false, .bool false] rfl G8.out rfl (by intro v hv; simp at hv; rcases hv with rfl | rfl | rfl | rfl <;> rfl) sizeRT ?_; refine Hid.out ?_)
    show wpList _ _ _ _ _ _
    have G9 := Lib.hid (setRow_heap _ _ _ (#[.int .i64 0, .slice none 0 0, .bool false, .bool false] : Array Value) _ _ G8.out)
    have f9 : Fr [w.heap.size + 1] w8 (w8.setRow (w.heap.size + 1) #[.int .i64 0, .slice none 0 0, .bool false, .bool false]) := (Fr.refl _ _).setRow _ _ (.inr (by simp))
    generalize w8.setRow (w.heap.size + 1) #[.int .i64 0, .slice none 0 0, .bool false, .bool false] = w9 at G9 f9 ⊢
    go_wp2_with fail
    refine bodyPost_ret (v := .agg #[.int .i64 0, .slice none 0 0, .bool false, .bool false]) (results_cell_row rfl _ _ (w.heap.size + 1) _ _ _ _ rfl G9.out Try.underlying32 rfl sizeRT) rfl ?_
    have e9 : ix k 10 = 5 := by unfold ix; have := HKM.out; omega
    have F9 : Fr S w w9 := Fr_trans_new ((H5.out.fr.mono (by simp)).trans (⟨HP7.out.2.os, HP7.out.2.tape, HP7.out.2.output, HP7.out.2.size, HP7.out.2.block⟩ : Fr S w5 w8)) f9 (by simp)
    have K9 := XI_keepNew HP7.out.1 f9 (newOkX HH.out HSUB.out G8.out) (newB HH.out)
    refine ⟨none, 0, _, ?_, ?_, ?_, F9, fun x hx => (HSUB.out x hx).imp id (fun h => by omega), fun y hy => by cases hy⟩
    · simp only [stepX, e9]; rfl
    · simp only [stepX, e9]; exact Ow.nil _ _ _
    · simp only [stepX, e9]; exact ⟨_, _, _, _, _, _, K9⟩

end Go.Proofs.Ytkijnpjefccepaa
end
