/- Contracts and lemmas, merged: Xl. Their conditions stand in each. -/
import Derived.Test.YtkijnpjefccepaaGA
import Derived.Test.YtkijnpjefccepaaGB
import Derived.Test.YtkijnpjefccepaaGC
import Derived.Test.YtkijnpjefccepaaGG
import Derived.Test.YtkijnpjefccepaaGH
import Derived.Test.YtkijnpjefccepaaGX
import Derived.Test.YtkijnpjefccepaaGY
import Derived.Test.YtkijnpjefccepaaGXA
import Derived.Test.YtkijnpjefccepaaGXB
import Derived.Test.YtkijnpjefccepaaGXI
import Derived.Test.YtkijnpjefccepaaGXJ
import Derived.Test.YtkijnpjefccepaaGXC
section
namespace Go.Proofs.Ytkijnpjefccepaa
open Go.ChangeShapes Go.WideShapes Go.ChangeAt Go.RowKit Go.Sha
theorem XI_srow {w : World} {base hb : Nat} {kind : Int} {p : XP} {q : NC} {all saved : List XS} {bs : List Nat} {ss : List (Nat × Nat)} {a1 a2 : Option Addr} {c1 c2 : Nat} {S : List Nat} (h : XI 54 49 22 72 w base hb kind p q all saved bs ss a1 c1 a2 c2 S) (hs : 0 < saved.length) :
    ∃ ga, a2 = some ⟨ga, 0, none⟩ ∧ saved.length ≤ c2 ∧ c2 ≤ 9223372036854775807 ∧ ∀ i, i < saved.length → w.cell? ⟨ga, i, none⟩ = some (slx (207 + p.ini.length) (ss.getD i (0, 0))) := by
  rcases h.rowS.2 with ⟨h2, h0⟩ | ⟨g, cap, cur, hv, hb', hg, hn, hm, hs', ht⟩
  · omega
  · simp only [Value.slice.injEq] at hv
    obtain ⟨rfl, _, rfl⟩ := hv
    refine ⟨g, rfl, hn, by unfold maxLen at hm; omega, fun i hi => ?_⟩
    have h4 : (cur.toList.take (saved.length * 1))[i]? = (ss.map (slx (207 + p.ini.length)))[i]? := by rw [ht]
    have h5 : (ss.map (slx (207 + p.ini.length)))[i]? = some (slx (207 + p.ini.length) (ss.getD i (0, 0))) := by
      rw [List.getElem?_map, List.getD_eq_getElem?_getD, List.getElem?_eq_getElem (l := ss) (by rw [h.sl]; exact hi)]
      rfl
    rw [List.getElem?_take_of_lt (by omega), h5, Array.getElem?_toList] at h4
    simp only [World.cell?, hg]
    exact h4

set_option maxRecDepth 100000 in
set_option maxHeartbeats 600000 in
theorem xact_load0 (w : World) (base hb : Nat) (kind : Int) (p : XP) (q : NC) (all saved : List XS) (bs : List Nat) (ss : List (Nat × Nat)) (a1 a2 : Option Addr) (c1 c2 : Nat) (S : List Nat) (ad : Option Addr) (nd cd : Nat) (data : Bs) (k att pick : Int) (h : XI 54 49 22 72 w base hb kind p q all saved bs ss a1 c1 a2 c2 S) (hS : Sl w ad nd cd data) (hnd : nd ≤ 140737488351232) (hall : all.length ≤ 3000000000000) (hsv : saved.length = 0) (hkm : k % 10 = ((9 : Nat) : Int)) :
    Calls Try.prog 30 #[.pointer (some ⟨hb, 0, none⟩), .agg #[.int .i64 k, .int .i64 att, .int .i64 pick, .slice ad nd cd]] w (XActR base hb kind p q (stepX p all saved ⟨k, att, pick, data⟩) S w) := by
  have HSV := Lib.hid hsv
  clear hsv
  have hA0 := B1.start h hS k att pick
  obtain ⟨i, hi⟩ : ∃ i, i = ix att all.length := ⟨_, rfl⟩
  have hil : i < all.length := by rw [hi]; exact ix_lt _ _ h.pos
  have HIX : Hid (att % ((all.length : Nat) : Int) = (i : Int)) := by rw [hi]; exact ix_int _ _ h.pos
  have HII := Lib.hid hi
  have HKM : Hid (k % 10 = ((9 : Nat) : Int)) := hkm
  clear hi hkm
  obtain ⟨ga, hga, hac, hacm, _⟩ := XI_row h
  obtain ⟨b, hb0⟩ : ∃ b, b = bs.getD i 0 := ⟨_, rfl⟩
  obtain ⟨n, hnl⟩ : ∃ n, n = all.length := ⟨_, rfl⟩
  have hrt := Lib.hid h.rt
  have hapos := h.pos
  have HBB : Hid (bs.getD i 0 = b) := hb0.symm
  have HNL : Hid (all.length = n) := hnl.symm
  have HGA := Lib.hid hga
  rw [← hnl] at hil hac hapos hall HIX
  have hin : (i : Int) < (n : Int) := by omega
  have HIL : Hid (i < all.length) := by show _ < _; rw [HNL.out]; exact hil
  clear hb0 hnl
  have t0 : ((9 : Int) == 0) = false := by decide
  have t1 : ((9 : Int) == 1) = false := by decide
  have t2 : ((9 : Int) == 2) = false := by decide
  have t4 : ((9 : Int) == 4) = false := by decide
  have t5 : ((9 : Int) == 5) = false := by decide
  have t6 : ((9 : Int) == 6) = false := by decide
  have t7 : ((9 : Int) == 7) = false := by decide
  have t8 : ((9 : Int) == 8) = false := by decide
  have t9 : ((9 : Int) == 9) = true := by decide
  subst hga
  have HH := Lib.hid h
  have HS := Lib.hid hS
  clear h hS
  go_enter Try.func30, Try.ntmps30
  go_wp2_with fail
  have R0 := hA0.keep (Fr.refl _ _).drew
  go_region_held3 (fun w' => w'.cell? ⟨hb, 3, none⟩ = some (.slice (some ⟨ga, 0, none⟩) n c1) ∧ w'.cell? ⟨w.heap.size, 1, none⟩ = some (.int .i64 att) ∧ w'.cell? ⟨w.heap.size, 3, none⟩ = some (.slice ad nd cd) ∧ w'.cell? ⟨ga, i, none⟩ = some (.pointer (some ⟨b, 0, none⟩)) ∧ B1 w base hb kind p q all saved bs ss (some ⟨ga, 0, none⟩) a2 c1 c2 S ad nd cd data k att pick w')
    (first | (exact R0.held HIL.out rfl HBB.out HNL.out) | (exact (R0.keep f5).held HIL.out rfl HBB.out HNL.out) | (go_keep))
    (first | (go_at_call 36; refine (place_nat att n i _ (by omega) (by omega) HIX.out).mono ?_; rintro e w4 ⟨rfl, rfl⟩) | (go_at_call 40; refine (copied_n ad nd cd data _ R0.sl (by omega)).mono ?_; rintro e w5 ⟨ao, co, rfl, O5, f5⟩))
  have R5 := R0.keep f5
  have q0 : w5.cell? ⟨w.heap.size, 0, none⟩ = some (.int .i64 k) := by rw [cell_of R5.b1]; rfl
  have OW5 : Hid (Ow w5 (w.heap.size + 1 + 1) 5 ao co data) := by
    have e5 := O5
    rw [show (((w.alloc (.cells #[.int .i64 k, .int .i64 att, .int .i64 pick, .slice ad nd cd] 27)).alloc (.cells #[.int .i64 0, .slice none 0 0, .bool false, .bool false] 32)).drew).heap.size = w.heap.size + 1 + 1 by simp [World.drew]] at e5
    exact e5
  have H5 := Lib.hid R5
  clear O5 R5 R0 hA0 f5
  go_wp2_with fail
  refine (place_nat k 10 9 _ (by decide) (by decide) HKM.out).mono ?_
  rintro e w5 ⟨rfl, rfl⟩
  clear q0
  obtain ⟨xi, hxi⟩ : ∃ xi, xi = all.getD i ⟨[], none⟩ := ⟨_, rfl⟩
  have HXI := Lib.hid hxi
  have hs5 : Hid (XsAt w5 b 72 p S xi) := by have := H5.out.hi.hs i HIL.out; rw [HBB.out, ← hxi] at this; exact this
  clear hxi
  have hbS : b ∈ S := by rw [← HBB.out]; exact HH.out.bsS _ (getD_mem (by rw [HH.out.bl]; exact HIL.out))
  have hbw : b < w.heap.size := HH.out.lt_of hbS
  have HBS := Lib.hid hbS
  clear hbS
  have hb5 : w.heap.size + 1 + 1 ≤ w5.heap.size := by have := (Array.getElem?_eq_some_iff.1 H5.out.b2).1; omega
  have G6 : Hid (w5.heap[w.heap.size + 1]? = some (.cells #[.int .i64 0, .slice none 0 0, .bool false, .bool false] 32 (0, 0))) := H5.out.b2
  have qs := (xsaved_cell H5.out.hi HSV.out).1
  go_wp2_with (refine wpList_store_bits rfl _ _ _ rfl (w.heap.size + 1) rfl 32 #[.int .i64 0, .slice none 0 0, .bool false, .bool false] #[.int .i64 0, .slice none 0 0, .bool false, .bool false] rfl G6.out rfl (by intro v hv; simp at hv; rcases hv with rfl | rfl | rfl | rfl <;> rfl) sizeRT ?_; refine Hid.out ?_)
  show wpList _ _ _ _ _ _
  have G9 := Lib.hid (setRow_heap _ _ _ (#[.int .i64 0, .slice none 0 0, .bool false, .bool false] : Array Value) _ _ G6.out)
  have f9 : Fr [w.heap.size + 1] w5 (w5.setRow (w.heap.size + 1) #[.int .i64 0, .slice none 0 0, .bool false, .bool false]) := (Fr.refl _ _).setRow _ _ (.inr (by simp))
  generalize w5.setRow (w.heap.size + 1) #[.int .i64 0, .slice none 0 0, .bool false, .bool false] = w9 at G9 f9 ⊢
  go_wp2_with fail
  refine bodyPost_ret (v := .agg #[.int .i64 0, .slice none 0 0, .bool false, .bool false]) (results_cell_row rfl _ _ (w.heap.size + 1) _ _ _ _ rfl G9.out Try.underlying32 rfl sizeRT) rfl ?_
  have F9 : Fr S w w9 := Fr_trans_new (H5.out.fr.mono (by simp) : Fr S w w5) f9 (by simp)
  have K9 : XI 54 49 22 72 w9 base hb kind p q all saved bs ss (some ⟨ga, 0, none⟩) c1 a2 c2 S := XI_keepNew H5.out.hi f9 (newOkX HH.out (fun x hx => .inl hx) H5.out.b2) (newB HH.out)
  have e9 : ix k 10 = 9 := by unfold ix; have := HKM.out; omega
  refine ⟨none, 0, S, ?_, ?_, ?_, F9, fun x hx => .inl hx, fun y hy => by cases hy⟩
  · simp only [stepX, e9, HSV.out, if_true]; rfl
  · simp only [stepX, e9, HSV.out, if_true]; exact Ow.nil _ _ _
  · simp only [stepX, e9, HSV.out, if_true]; exact ⟨_, _, _, _, _, _, K9⟩

set_option maxRecDepth 100000 in
set_option maxHeartbeats 4000000 in
theorem xact_load1 (w : World) (base hb : Nat) (kind : Int) (p : XP) (q : NC) (all saved : List XS) (bs : List Nat) (ss : List (Nat × Nat)) (a1 a2 : Option Addr) (c1 c2 : Nat) (S : List Nat) (ad : Option Addr) (nd cd : Nat) (data : Bs) (k att pick : Int) (h : XI 54 49 22 72 w base hb kind p q all saved bs ss a1 c1 a2 c2 S) (hS : Sl w ad nd cd data) (hnd : nd ≤ 140737488351232) (hall : all.length ≤ 3000000000000) (hh : p.Hd) (hsv : 0 < saved.length) (hsvl : saved.length ≤ 3000000000000) (hkm : k % 10 = ((9 : Nat) : Int)) :
    Calls Try.prog 30 #[.pointer (some ⟨hb, 0, none⟩), .agg #[.int .i64 k, .int .i64 att, .int .i64 pick, .slice ad nd cd]] w (XActR base hb kind p q (stepX p all saved ⟨k, att, pick, data⟩) S w) := by
  obtain ⟨M, hM⟩ : ∃ M, 207 + p.ini.length = M := ⟨_, rfl⟩
  have hM2 : M ≤ 281474976702689 := by have := hh.il; omega
  have hM1 : 207 ≤ M := by omega
  have HMM := Lib.hid hM
  clear hM
  obtain ⟨j, hj⟩ : ∃ j, j = ix pick saved.length := ⟨_, rfl⟩
  have hjl : j < saved.length := by rw [hj]; exact ix_lt _ _ hsv
  have HJX : Hid (pick % ((saved.length : Nat) : Int) = (j : Int)) := by rw [hj]; exact ix_int _ _ hsv
  have HJJ := Lib.hid hj
  have HJL := Lib.hid hjl
  have HSV := Lib.hid hsv
  obtain ⟨gz, hgz, hzc, hzm, _⟩ := XI_srow h hsv
  subst hgz
  obtain ⟨m, hml⟩ : ∃ m, m = saved.length := ⟨_, rfl⟩
  have HML : Hid (saved.length = m) := hml.symm
  rw [← hml] at hsv hsvl hjl hzc HJX
  have hjm : (j : Int) < (m : Int) := by omega
  have hm0 : decide ((0 : Int) < (m : Int)) = true := by simp; omega
  obtain ⟨sg, hsg⟩ : ∃ sg, sg = ss.getD j (0, 0) := ⟨_, rfl⟩
  have HSG := Lib.hid hsg
  clear hj hml hsg
  have hA0 := B1.start h hS k att pick
  obtain ⟨i, hi⟩ : ∃ i, i = ix att all.length := ⟨_, rfl⟩
  have hil : i < all.length := by rw [hi]; exact ix_lt _ _ h.pos
  have HIX : Hid (att % ((all.length : Nat) : Int) = (i : Int)) := by rw [hi]; exact ix_int _ _ h.pos
  have HII := Lib.hid hi
  have HKM : Hid (k % 10 = ((9 : Nat) : Int)) := hkm
  clear hi hkm
  obtain ⟨ga, hga, hac, hacm, _⟩ := XI_row h
  obtain ⟨b, hb0⟩ : ∃ b, b = bs.getD i 0 := ⟨_, rfl⟩
  obtain ⟨n, hnl⟩ : ∃ n, n = all.length := ⟨_, rfl⟩
  have hrt := Lib.hid h.rt
  have hapos := h.pos
  have HBB : Hid (bs.getD i 0 = b) := hb0.symm
  have HNL : Hid (all.length = n) := hnl.symm
  have HGA := Lib.hid hga
  rw [← hnl] at hil hac hapos hall HIX
  have hin : (i : Int) < (n : Int) := by omega
  have HIL : Hid (i < all.length) := by show _ < _; rw [HNL.out]; exact hil
  clear hb0 hnl
  have t0 : ((9 : Int) == 0) = false := by decide
  have t1 : ((9 : Int) == 1) = false := by decide
  have t2 : ((9 : Int) == 2) = false := by decide
  have t4 : ((9 : Int) == 4) = false := by decide
  have t5 : ((9 : Int) == 5) = false := by decide
  have t6 : ((9 : Int) == 6) = false := by decide
  have t7 : ((9 : Int) == 7) = false := by decide
  have t8 : ((9 : Int) == 8) = false := by decide
  have t9 : ((9 : Int) == 9) = true := by decide
  subst hga
  have HH := Lib.hid h
  have HS := Lib.hid hS
  clear h hS
  go_enter Try.func30, Try.ntmps30
  go_wp2_with fail
  have R0 := hA0.keep (Fr.refl _ _).drew
  go_region_held3 (fun w' => w'.cell? ⟨hb, 3, none⟩ = some (.slice (some ⟨ga, 0, none⟩) n c1) ∧ w'.cell? ⟨w.heap.size, 1, none⟩ = some (.int .i64 att) ∧ w'.cell? ⟨w.heap.size, 3, none⟩ = some (.slice ad nd cd) ∧ w'.cell? ⟨ga, i, none⟩ = some (.pointer (some ⟨b, 0, none⟩)) ∧ B1 w base hb kind p q all saved bs ss (some ⟨ga, 0, none⟩) (some ⟨gz, 0, none⟩) c1 c2 S ad nd cd data k att pick w')
    (first | (exact R0.held HIL.out rfl HBB.out HNL.out) | (exact (R0.keep f5).held HIL.out rfl HBB.out HNL.out) | (go_keep))
    (first | (go_at_call 36; refine (place_nat att n i _ (by omega) (by omega) HIX.out).mono ?_; rintro e w4 ⟨rfl, rfl⟩) | (go_at_call 40; refine (copied_n ad nd cd data _ R0.sl (by omega)).mono ?_; rintro e w5 ⟨ao, co, rfl, O5, f5⟩))
  have R5 := R0.keep f5
  have q0 : w5.cell? ⟨w.heap.size, 0, none⟩ = some (.int .i64 k) := by rw [cell_of R5.b1]; rfl
  have OW5 : Hid (Ow w5 (w.heap.size + 1 + 1) 5 ao co data) := by
    have e5 := O5
    rw [show (((w.alloc (.cells #[.int .i64 k, .int .i64 att, .int .i64 pick, .slice ad nd cd] 27)).alloc (.cells #[.int .i64 0, .slice none 0 0, .bool false, .bool false] 32)).drew).heap.size = w.heap.size + 1 + 1 by simp [World.drew]] at e5
    exact e5
  have H5 := Lib.hid R5
  clear O5 R5 R0 hA0 f5
  go_wp2_with fail
  refine (place_nat k 10 9 _ (by decide) (by decide) HKM.out).mono ?_
  rintro e w5 ⟨rfl, rfl⟩
  clear q0
  obtain ⟨xi, hxi⟩ : ∃ xi, xi = all.getD i ⟨[], none⟩ := ⟨_, rfl⟩
  have HXI := Lib.hid hxi
  have hs5 : Hid (XsAt w5 b 72 p S xi) := by have := H5.out.hi.hs i HIL.out; rw [HBB.out, ← hxi] at this; exact this
  clear hxi
  have hbS : b ∈ S := by rw [← HBB.out]; exact HH.out.bsS _ (getD_mem (by rw [HH.out.bl]; exact HIL.out))
  have hbw : b < w.heap.size := HH.out.lt_of hbS
  have HBS := Lib.hid hbS
  clear hbS
  have hb5 : w.heap.size + 1 + 1 ≤ w5.heap.size := by have := (Array.getElem?_eq_some_iff.1 H5.out.b2).1; omega
  have qs := (xsaved_cell H5.out.hi HML.out).1
  go_wp2_with fail
  obtain ⟨g0, cg⟩ := sg
  have H5d := Lib.hid (H5.out.hi.keep0 (Fr.refl _ _).drew)
  have q1 := (xsaved_cell H5d.out HML.out).1
  have q2 : w5.drew.cell? ⟨gz, j, none⟩ = some (.slice (some ⟨g0, 0, none⟩) M cg) := by
    obtain ⟨gz', e1, _, _, hc⟩ := XI_srow H5d.out HSV.out
    simp only [Option.some.injEq, Addr.mk.injEq] at e1
    obtain ⟨rfl, _, _⟩ := e1
    rw [hc j HJL.out, ← HSG.out, HMM.out]
    rfl
  have q3 : w5.drew.cell? ⟨w.heap.size, 2, none⟩ = some (.int .i64 pick) := by show w5.cell? ⟨w.heap.size, 2, none⟩ = _; rw [cell_of H5.out.b1]; rfl
  obtain ⟨y, hy⟩ : ∃ y, y = saved.getD j ⟨[], none⟩ := ⟨_, rfl⟩
  have HY := Lib.hid hy
  have Sj : Hid (Sl w5.drew (some ⟨g0, 0, none⟩) M cg (marX p y)) := by have := (H5d.out.sv j HJL.out).1; rw [← HSG.out, HMM.out, ← hy] at this; exact this
  clear hy
  have hmr : Hid ((marX p y).length = M) := by show _ = _; rw [marX_length _ _ hrt.out, HMM.out]
  have hS5 : ∀ k ∈ S, k < w5.heap.size := fun k hk => by have := HH.out.lt_of hk; omega
  go_region_law (first
    | (go_simp; go_at_call 36; refine (place_nat pick m j _ (by omega) (by omega) HJX.out).mono ?_; rintro e w4 ⟨rfl, rfl⟩)
    | (go_simp; go_at_call 40; refine (copied_n _ M _ (marX p y) _ Sj.out (by omega)).mono ?_; rintro e w6 ⟨ac, cc, rfl, o6, f6⟩; obtain ⟨gx, hac, hx1, hx2, hx3⟩ := OwX_at0 o6 (by rw [hmr.out]; omega); rw [hac] at o6 ⊢; have O6 := Lib.hid o6; clear o6 hac)
    | (go_simp; go_at_call 49; have U7 := shkUnmarshal_any w6 b p S xi y hrt.out hh HBS.out (hs5.out.keep ((Fr.refl [] _).drew.trans f6) (by simp) (by simp)) (fun k hk => Nat.lt_of_lt_of_le (hS5 k hk) f6.size) gx 0 cc (by rw [HMM.out]; exact O6.out.sl_at hmr.out) (by have : w5.heap.size ≤ gx := hx1; omega); rw [HMM.out] at U7; refine U7.mono ?_; rintro e w7 ⟨rfl, D7, f7⟩; have G7 : Hid (w7.heap[w.heap.size + 1]? = some (.cells #[.int .i64 0, .slice none 0 0, .bool false, .bool false] 32 (0, 0))) := f7.obj (f6.obj H5.out.b2 (by simp)) (by simp; omega); have HD7 := Lib.hid D7; have r0 : w7.cell? ⟨w.heap.size + 1, 0, none⟩ = some (.int .i64 0) := (cell_of G7.out 0).trans rfl; have r1 : w7.cell? ⟨w.heap.size + 1, 1, none⟩ = some (.slice none 0 0) := (cell_of G7.out 1).trans rfl; have r2 : w7.cell? ⟨w.heap.size + 1, 2, none⟩ = some (.bool false) := (cell_of G7.out 2).trans rfl; have r3 : w7.cell? ⟨w.heap.size + 1, 3, none⟩ = some (.bool false) := (cell_of G7.out 3).trans rfl; have s0 : ∀ i, w7.frozen? ⟨w.heap.size + 1, i, none⟩ = false := fun i => (by simp [World.frozen?, G7.out]); have s00 := s0 0; have s01 := s0 1; have s02 := s0 2; have s03 := s0 3; clear s0))
  all_goals
    have G9 := Lib.hid (set4X G7.out (.int .i64 0) (.slice none 0 0) (.bool true) (.bool false)).1
    have f9 := (set4X G7.out (.int .i64 0) (.slice none 0 0) (.bool true) (.bool false)).2
    clear r0 r1 r2 r3 s00 s01 s02 s03 q1 q2 q3 qs
    generalize (((w7.setCell ⟨w.heap.size + 1, 0, none⟩ (.int .i64 0)).setCell ⟨w.heap.size + 1, 1, none⟩ (.slice none 0 0)).setCell ⟨w.heap.size + 1, 2, none⟩ (.bool true)).setCell ⟨w.heap.size + 1, 3, none⟩ (.bool false) = w9 at G9 f9 ⊢
    go_wp2_with fail
    refine bodyPost_ret (v := .agg #[.int .i64 0, .slice none 0 0, .bool true, .bool false]) (results_cell_row rfl _ _ (w.heap.size + 1) _ _ _ _ rfl G9.out Try.underlying32 rfl sizeRT) rfl ?_
    have f57 : Fr [b] w5 w7 := ((Fr.refl [] w5).drew.trans f6).mono (by simp) |>.trans f7
    have F9 : Fr S w w9 := Fr_trans_new ((H5.out.fr.mono (by simp)).trans (f57.mono (fun x _ hx => by simp at hx; rw [hx]; exact HBS.out)) : Fr S w w7) f9 (by simp)
    have K9 := XI_keepNew (H5.out.hi.upd i HIL.out y (by rw [HBB.out]; exact f57) (by rw [HBB.out]; exact HD7.out)) f9 (newOkX HH.out (fun x hx => .inl hx) G7.out) (newB HH.out)
    have e9 : ix k 10 = 9 := by unfold ix; have := HKM.out; omega
    have e10 : ¬ saved.length = 0 := by have := HSV.out; omega
    refine ⟨none, 0, S, ?_, ?_, ?_, F9, fun x hx => .inl hx, fun y hy => by cases hy⟩
    · simp only [stepX, e9, e10, if_false]; rfl
    · simp only [stepX, e9, e10, if_false]; exact Ow.nil _ _ _
    · simp only [stepX, e9, e10, if_false]; exact ⟨_, _, _, _, _, _, by rw [← HII.out, ← HJJ.out, ← HY.out]; exact K9⟩

end Go.Proofs.Ytkijnpjefccepaa
end
