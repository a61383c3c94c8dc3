/- One call of a script over hashes: a new hash. No condition but on lengths. -/
import Derived.Test.YtjgdbamlaajkmaaAct
namespace Go.Sha
open Go.RowKit
theorem Src_one {P : Program} {tx e' : TypeId} {w : World} (hk : P.underlying tx = some (.slice e')) (v : Value) (hv : v.oneCell' = true) (E : Nat) : Src P 1 tx (.slice (some ⟨w.heap.size, 0, none⟩) 1 1) 1 [v] (w.alloc (.cells #[v] E)) := by
  refine Src.ofSlice _ hk ⟨w.heap.size, 0, none⟩ 1 1 [v] rfl (fun j u hu => ?_) (by simpa using hv)
  have hj : j = 0 := by have := (List.getElem?_eq_some_iff.1 hu).1; simp at this; exact this
  subst hj
  have h := Go.heap_alloc_new w (.cells #[v] E)
  have e : (⟨w.heap.size, 0, none⟩ : Addr).add 0 = ⟨w.heap.size, 0, none⟩ := by unfold Addr.add; split <;> simp_all
  rw [e]
  simp only [World.cell?, h]
  simpa using hu
end Go.Sha
namespace Go.Proofs.Ytjgdbamlaajkmaa
open Go.ChangeShapes Go.WideShapes Go.ChangeAt Go.RowKit Go.Sha
theorem infoPT : (Try.prog.info? 45).map (fun i => (i.zero, i.size, i.bytes)) = some (some (.pointer none), 1, 8) := by kernel_rfl
theorem kind_cell {w : World} {base hb : Nat} {kind : Int} {r o : Nat} {all saved : List Bs} {bs : List Nat} {ss : List (Nat × Nat)} {a1 a2 : Option Addr} {c1 c2 : Nat} {S : List Nat} (h : HI 50 45 22 60 w base hb kind r o all saved bs ss a1 c1 a2 c2 S) {n : Nat} (hn : all.length = n) :
    w.cell? ⟨hb, 0, none⟩ = some (.int .i64 kind) ∧ w.cell? ⟨hb, 1, none⟩ = some (.slice a1 n c1) ∧ w.frozen? ⟨hb, 1, none⟩ = false := by
  subst hn
  exact ⟨by rw [cell_of h.blk]; rfl, by rw [cell_of h.blk]; rfl, by simp [World.frozen?, h.blk]⟩
theorem grown_blk {wB wC : World} {base hb : Nat} {kind : Int} {r o : Nat} {all saved : List Bs} {bs : List Nat} {ss : List (Nat × Nat)} {a1 a2 : Option Addr} {c1 c2 n : Nat} {S : List Nat} (h : HI 50 45 22 60 wB base hb kind r o all saved bs ss a1 c1 a2 c2 S) (hn : all.length = n) (hgr : wB.grownBy wC (Value.slice a1 n c1).ownBlock) :
    wC.cell? ⟨hb, 1, none⟩ = some (.slice a1 n c1) ∧ wC.frozen? ⟨hb, 1, none⟩ = false := by
  subst hn
  have fBC : Fr (blkOf a1) wB wC := by
    rw [← ownBlock_blkOf a1 all.length c1]
    exact (Fr.refl _ _).grown hgr (fun k hk => by rw [hk]; exact .inr (by simp))
  have hblkC := fBC.obj h.blk (fun hm => by
    obtain ⟨x, hx, e⟩ := mem_blkOf.1 hm
    exact (h.a1bs x hx).1 e)
  exact ⟨by rw [cell_of hblkC]; rfl, by simp [World.frozen?, hblkC]⟩
theorem push_sub {w5 wB : World} {a1 a1' : Option Addr} {S : List Nat} {g N : Nat} (ha : a1' = a1 ∨ a1' = some ⟨wB.heap.size, 0, none⟩) (h1 : ∀ x, a1 = some x → x.block ∈ S) (hg : N ≤ g) (hB : N ≤ wB.heap.size) : ∀ k ∈ g :: (blkOf a1' ++ S), k ∈ S ∨ N ≤ k := fun k hk => by
  rcases List.mem_cons.1 hk with e | hk
  · exact .inr (e ▸ hg)
  · rcases List.mem_append.1 hk with hk | hk
    · obtain ⟨x, hx, rfl⟩ := mem_blkOf.1 hk
      rcases ha with rfl | rfl
      · exact .inl (h1 x hx)
      · simp only [Option.some.injEq] at hx
        subst hx
        exact .inr hB
    · exact .inl hk

set_option maxRecDepth 100000 in
set_option maxHeartbeats 600000 in
theorem act_fresh (w : World) (base hb : Nat) (kind : Int) (r o : Nat) (all saved : List Bs) (bs : List Nat) (ss : List (Nat × Nat)) (a1 a2 : Option Addr) (c1 c2 : Nat) (S : List Nat) (ad : Option Addr) (nd cd : Nat) (data : Bs) (k att pick : Int) (h : HI 50 45 22 60 w base hb kind r o all saved bs ss a1 c1 a2 c2 S) (hS : Sl w ad nd cd data) (hnd : nd ≤ 140737488351232) (hall : all.length ≤ 1099511627776) (hkr : r = rOf (k5 kind)) (hko : o = oOf (k5 kind)) (hkm : k % 10 = ((6 : Nat) : Int)) :
    Calls Try.prog 28 #[.pointer (some ⟨hb, 0, none⟩), .agg #[.int .i64 k, .int .i64 att, .int .i64 pick, .slice ad nd cd]] w (ActR base hb kind r o (stepH r o all saved ⟨k, att, pick, data⟩) S w) := by
  have hA0 := A1.start h hS k att pick
  obtain ⟨i, hi⟩ : ∃ i, i = ix att all.length := ⟨_, rfl⟩
  have hil : i < all.length := by rw [hi]; exact ix_lt _ _ h.pos
  have HIX : Hid (att % ((all.length : Nat) : Int) = (i : Int)) := by rw [hi]; exact ix_int _ _ h.pos
  have HII := Lib.hid hi
  have HKM : Hid (k % 10 = ((6 : Nat) : Int)) := hkm
  clear hi hkm
  obtain ⟨ga, hga, hac, hacm, _⟩ := HI_row h
  obtain ⟨b, hb0⟩ : ∃ b, b = bs.getD i 0 := ⟨_, rfl⟩
  obtain ⟨n, hnl⟩ : ∃ n, n = all.length := ⟨_, rfl⟩
  have hrt := Lib.hid h.rt
  have hapos := h.pos
  have HBB : Hid (bs.getD i 0 = b) := hb0.symm
  have HNL : Hid (all.length = n) := hnl.symm
  have HGA := Lib.hid hga
  rw [← hnl] at hil hac hapos hall HIX
  have hin : (i : Int) < (n : Int) := by omega
  have HIL : Hid (i < all.length) := by show _ < _; rw [HNL.out]; exact hil
  clear hb0 hnl
  have t0 : ((6 : Int) == 0) = false := by decide
  have t1 : ((6 : Int) == 1) = false := by decide
  have t2 : ((6 : Int) == 2) = false := by decide
  have t3 : ((6 : Int) == 3) = false := by decide
  have t4 : ((6 : Int) == 4) = false := by decide
  have t5 : ((6 : Int) == 5) = false := by decide
  have t6 : ((6 : Int) == 6) = true := by decide
  subst hga
  have HH := Lib.hid h
  have HS := Lib.hid hS
  clear h hS
  go_enter Try.func28, Try.ntmps28
  go_wp2_with fail
  have R0 := hA0.keep (Fr.refl _ _).drew
  go_region_held3 (fun w' => w'.cell? ⟨hb, 1, none⟩ = some (.slice (some ⟨ga, 0, none⟩) n c1) ∧ w'.cell? ⟨w.heap.size, 1, none⟩ = some (.int .i64 att) ∧ w'.cell? ⟨w.heap.size, 3, none⟩ = some (.slice ad nd cd) ∧ w'.cell? ⟨ga, i, none⟩ = some (.pointer (some ⟨b, 0, none⟩)) ∧ A1 w base hb kind r o all saved bs ss (some ⟨ga, 0, none⟩) a2 c1 c2 S ad nd cd data k att pick w')
    (first | (exact R0.held HIL.out rfl HBB.out HNL.out) | (exact (R0.keep f5).held HIL.out rfl HBB.out HNL.out) | (go_keep))
    (first | (go_at_call 31; refine (place_nat att n i _ (by omega) (by omega) HIX.out).mono ?_; rintro e w4 ⟨rfl, rfl⟩) | (go_at_call 36; refine (copied_n ad nd cd data _ R0.sl (by omega)).mono ?_; rintro e w5 ⟨ao, co, rfl, O5, f5⟩))
  have R5 := R0.keep f5
  have q0 : w5.cell? ⟨w.heap.size, 0, none⟩ = some (.int .i64 k) := by rw [cell_of R5.b1]; rfl
  have OW5 : Hid (Ow w5 (w.heap.size + 1 + 1) 5 ao co data) := by
    have e5 := O5
    rw [show (((w.alloc (.cells #[.int .i64 k, .int .i64 att, .int .i64 pick, .slice ad nd cd] 26)).alloc (.cells #[.int .i64 0, .slice none 0 0, .bool false, .bool false] 31)).drew).heap.size = w.heap.size + 1 + 1 by simp [World.drew]] at e5
    exact e5
  have H5 := Lib.hid R5
  clear O5 R5 R0 hA0 f5
  go_wp2_with fail
  refine (place_nat k 10 6 _ (by decide) (by decide) HKM.out).mono ?_
  rintro e w5 ⟨rfl, rfl⟩
  clear q0
  have hs5 : Hid (HsAt w5 b 60 r o (all.getD i [])) := by have := H5.out.hi.hs i HIL.out; rw [HBB.out] at this; exact this
  have hbS : b ∈ S := by rw [← HBB.out]; exact HH.out.bsS _ (getD_mem (by rw [HH.out.bl]; exact HIL.out))
  have hbw : b < w.heap.size := HH.out.lt_of hbS
  have HBS := Lib.hid hbS
  clear hbS
  go_wp2_with fail
  obtain ⟨i0, hi0, hz0, hz1, hz2⟩ := info_parts infoPT
  have H5d : HI 50 45 22 60 w5.drew base hb kind r o all saved bs ss (some ⟨ga, 0, none⟩) c1 a2 c2 S := H5.out.hi.keep0 (Fr.refl _ _).drew
  have q1 := (kind_cell H5d HNL.out).1
  have q2 := (kind_cell H5d HNL.out).2.1
  have HKR := Lib.hid (And.intro hkr hko)
  clear hkr hko
  have HD5 := Lib.hid H5d
  clear H5d
  have hb5 : w.heap.size + 1 + 1 ≤ w5.heap.size := by have := (Array.getElem?_eq_some_iff.1 H5.out.b2).1; omega
  have hbase := (HH.out.Slt hb HH.out.hbS)
  go_region_law (first
    | (go_simp; go_at_call 27; refine (newHash_any kind _).mono ?_; rintro e w6 ⟨g, rfl, hg1, hg2, h6, f6⟩; have q3 := (kind_cell (HD5.out.keep0 f6) HNL.out).2.1; have q4 := (kind_cell ((HD5.out.keep0 f6).keep0 ((Fr.refl [] _).alloc (.cells #[.pointer (some ⟨g, 0, none⟩)] 45))) HNL.out).2.1; have H6 := Lib.hid (HD5.out.keep0 f6); have HS6 := Lib.hid h6; have hsz6 : w5.heap.size ≤ w6.heap.size := f6.size; clear h6)
    | (refine step_append_srcN _ rfl _ _ 47 47 rfl base 45 i0 (.pointer none) 1 8 Try.underlying47 hi0 hz0 hz1 hz2 rfl (some ⟨ga, 0, none⟩) n c1 (bs.map ptr) rfl (by have := (H6.out.keep0 ((Fr.refl _ _).alloc (.cells #[.pointer (some ⟨g, 0, none⟩)] 45))).rowA; rw [HNL.out] at this; exact this) _ 1 [ptr g] rfl (Src_one Try.underlying47 (ptr g) rfl 45) (by unfold maxLen; omega) (by omega) (by simp; omega) ?_; intro a7 c7 w7 ho hg ha; have q8 := grown_blk (H6.out.keep0 ((Fr.refl _ _).alloc (.cells #[.pointer (some ⟨g, 0, none⟩)] 45))) HNL.out hg))
  all_goals
    have hw6 : w.heap.size ≤ w6.heap.size := by omega
    have P7 := HI.push HD5.out (wB := w6.alloc (.cells #[.pointer (some ⟨g, 0, none⟩)] 45)) (wC := w7) (g := g) (c1' := c7) (a1' := a7) (data := []) (f6.trans ((Fr.refl _ _).alloc _)) (by rw [HKR.out.1, HKR.out.2]; exact HS6.out.keep ((Fr.refl [] _).alloc _) (by simp)) hg1 (Nat.le_trans (Nat.le_of_lt hbase.2 |> Nat.le_trans hbase.1) (Nat.le_trans H5.out.fr.size (Nat.le_refl _))) (by rw [HNL.out]; exact ho) (by rw [HNL.out]; exact hg) ha
    rw [HNL.out] at P7
    have HP7 := Lib.hid P7
    have hsub := push_sub (w5 := w5) (wB := w6.alloc (.cells #[.pointer (some ⟨g, 0, none⟩)] 45)) (g := g) (N := w.heap.size + 1 + 1) ha HD5.out.a1S (by have : w5.heap.size ≤ g := hg1; omega) (by simp; omega)
    have HSUB := Lib.hid hsub
    clear P7 ho hg q1 q2 q3 q4 q8 hsub
    generalize w7.setCell ⟨hb, 1, none⟩ (.slice a7 (n + 1) c7) = w8 at HP7 ⊢
    have G8 : Hid (w8.heap[w.heap.size + 1]? = some (.cells #[.int .i64 0, .slice none 0 0, .bool false, .bool false] 31 (0, 0))) := HP7.out.2.obj H5.out.b2 (fun hm => by have := HH.out.lt_of hm; omega)
    go_wp2_with (refine wpList_store_bits rfl _ _ _ rfl (w.heap.size + 1) rfl 31 #[.int .i64 0, .slice none 0 0, .bool false, .bool false] #[.int .i64 0, .slice none 0 0, .bool false, .bool false] rfl G8.out rfl (by intro v hv; simp at hv; rcases hv with rfl | rfl | rfl | rfl <;> rfl) sizeRT ?_; refine Hid.out ?_)
    show wpList _ _ _ _ _ _
    have G9 := Lib.hid (setRow_heap _ _ _ (#[.int .i64 0, .slice none 0 0, .bool false, .bool false] : Array Value) _ _ G8.out)
    have f9 : Fr [w.heap.size + 1] w8 (w8.setRow (w.heap.size + 1) #[.int .i64 0, .slice none 0 0, .bool false, .bool false]) := (Fr.refl _ _).setRow _ _ (.inr (by simp))
    generalize w8.setRow (w.heap.size + 1) #[.int .i64 0, .slice none 0 0, .bool false, .bool false] = w9 at G9 f9 ⊢
    go_wp2_with fail
    refine bodyPost_ret (v := .agg #[.int .i64 0, .slice none 0 0, .bool false, .bool false]) (results_cell_row rfl _ _ (w.heap.size + 1) _ _ _ _ rfl G9.out Try.underlying31 rfl sizeRT) rfl ?_
    have e9 : ix k 10 = 6 := by unfold ix; have := HKM.out; omega
    have F9 : Fr S w w9 := Fr_trans_new ((H5.out.fr.mono (by simp)).trans (⟨HP7.out.2.os, HP7.out.2.tape, HP7.out.2.output, HP7.out.2.size, HP7.out.2.block⟩ : Fr S w5 w8)) f9 (by simp)
    have K9 := HI_keepNew HP7.out.1 f9 (fun x hx => ⟨fun hm => by
      simp only [List.mem_cons, List.not_mem_nil, or_false] at hx
      subst hx
      rcases HSUB.out _ hm with h1 | h1
      · have := HH.out.lt_of h1
        omega
      · omega, fun j hj => ((newOk HH.out) x hx).2 j hj⟩)
    refine ⟨none, 0, _, ?_, ?_, ?_, F9, fun x hx => (HSUB.out x hx).imp id (fun h => by omega), fun y hy => by cases hy⟩
    · simp only [stepH, e9]; rfl
    · simp only [stepH, e9]; exact Ow.nil _ _ _
    · simp only [stepH, e9]; exact ⟨_, _, _, _, _, _, K9⟩

end Go.Proofs.Ytjgdbamlaajkmaa
