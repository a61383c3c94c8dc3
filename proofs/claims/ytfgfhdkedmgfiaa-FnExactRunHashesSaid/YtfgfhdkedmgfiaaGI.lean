/- Contracts and lemmas, merged: ActC, Cln, Sav, ActD, ActE. Their conditions stand in each. -/
import Derived.Test.YtfgfhdkedmgfiaaGA
import Derived.Test.YtfgfhdkedmgfiaaGB
import Derived.Test.YtfgfhdkedmgfiaaGC
import Derived.Test.YtfgfhdkedmgfiaaGG
import Derived.Test.YtfgfhdkedmgfiaaGH
import Derived.Test.YtfgfhdkedmgfiaaGP
import Derived.Lib.MinMax
section
namespace Go.Sha
open Go.RowKit
theorem Src_one {P : Program} {tx e' : TypeId} {w : World} (hk : P.underlying tx = some (.slice e')) (v : Value) (hv : v.oneCell' = true) (E : Nat) : Src P 1 tx (.slice (some ⟨w.heap.size, 0, none⟩) 1 1) 1 [v] (w.alloc (.cells #[v] E)) := by
  refine Src.ofSlice _ hk ⟨w.heap.size, 0, none⟩ 1 1 [v] rfl (fun j u hu => ?_) (by simpa using hv)
  have hj : j = 0 := by have := (List.getElem?_eq_some_iff.1 hu).1; simp at this; exact this
  subst hj
  have h := Go.heap_alloc_new w (.cells #[v] E)
  have e : (⟨w.heap.size, 0, none⟩ : Addr).add 0 = ⟨w.heap.size, 0, none⟩ := by unfold Addr.add; split <;> simp_all
  rw [e]
  simp only [World.cell?, h]
  simpa using hu
end Go.Sha
namespace Go.Proofs.Ytfgfhdkedmgfiaa
open Go.ChangeShapes Go.WideShapes Go.ChangeAt Go.RowKit Go.Sha
theorem infoPT : (Try.prog.info? 56).map (fun i => (i.zero, i.size, i.bytes)) = some (some (.pointer none), 1, 8) := by kernel_rfl
theorem kind_cell {w : World} {base hb : Nat} {kind : Int} {r o : Nat} {all saved : List Bs} {bs : List Nat} {ss : List (Nat × Nat)} {a1 a2 : Option Addr} {c1 c2 : Nat} {S : List Nat} (h : HI 60 56 22 86 w base hb kind r o all saved bs ss a1 c1 a2 c2 S) {n : Nat} (hn : all.length = n) :
    w.cell? ⟨hb, 0, none⟩ = some (.int .i64 kind) ∧ w.cell? ⟨hb, 1, none⟩ = some (.slice a1 n c1) ∧ w.frozen? ⟨hb, 1, none⟩ = false := by
  subst hn
  exact ⟨by rw [cell_of h.blk]; rfl, by rw [cell_of h.blk]; rfl, by simp [World.frozen?, h.blk]⟩
theorem grown_blk {wB wC : World} {base hb : Nat} {kind : Int} {r o : Nat} {all saved : List Bs} {bs : List Nat} {ss : List (Nat × Nat)} {a1 a2 : Option Addr} {c1 c2 n : Nat} {S : List Nat} (h : HI 60 56 22 86 wB base hb kind r o all saved bs ss a1 c1 a2 c2 S) (hn : all.length = n) (hgr : wB.grownBy wC (Value.slice a1 n c1).ownBlock) :
    wC.cell? ⟨hb, 1, none⟩ = some (.slice a1 n c1) ∧ wC.frozen? ⟨hb, 1, none⟩ = false := by
  subst hn
  have fBC : Fr (blkOf a1) wB wC := by
    rw [← ownBlock_blkOf a1 all.length c1]
    exact (Fr.refl _ _).grown hgr (fun k hk => by rw [hk]; exact .inr (by simp))
  have hblkC := fBC.obj h.blk (fun hm => by
    obtain ⟨x, hx, e⟩ := mem_blkOf.1 hm
    exact (h.a1bs x hx).1 e)
  exact ⟨by rw [cell_of hblkC]; rfl, by simp [World.frozen?, hblkC]⟩
theorem push_sub {wB : World} {a1 a1' : Option Addr} {S : List Nat} {g N : Nat} (ha : a1' = a1 ∨ a1' = some ⟨wB.heap.size, 0, none⟩) (h1 : ∀ x, a1 = some x → x.block ∈ S) (hg : N ≤ g) (hB : N ≤ wB.heap.size) : ∀ k ∈ g :: (blkOf a1' ++ S), k ∈ S ∨ N ≤ k := fun k hk => by
  rcases List.mem_cons.1 hk with e | hk
  · exact .inr (e ▸ hg)
  · rcases List.mem_append.1 hk with hk | hk
    · obtain ⟨x, hx, rfl⟩ := mem_blkOf.1 hk
      rcases ha with rfl | rfl
      · exact .inl (h1 x hx)
      · simp only [Option.some.injEq] at hx
        subst hx
        exact .inr hB
    · exact .inl hk

set_option maxRecDepth 100000 in
set_option maxHeartbeats 600000 in
theorem act_fresh (w : World) (base hb : Nat) (kind : Int) (r o : Nat) (all saved : List Bs) (bs : List Nat) (ss : List (Nat × Nat)) (a1 a2 : Option Addr) (c1 c2 : Nat) (S : List Nat) (ad : Option Addr) (nd cd : Nat) (data : Bs) (k att pick : Int) (h : HI 60 56 22 86 w base hb kind r o all saved bs ss a1 c1 a2 c2 S) (hS : Sl w ad nd cd data) (hnd : nd ≤ 140737488351232) (hall : all.length ≤ 3000000000000) (hkr : r = rOf (k5 kind)) (hko : o = oOf (k5 kind)) (hkm : k % 10 = ((6 : Nat) : Int)) :
    Calls Try.prog 39 #[.pointer (some ⟨hb, 0, none⟩), .agg #[.int .i64 k, .int .i64 att, .int .i64 pick, .slice ad nd cd]] w (ActR base hb kind r o (stepH r o all saved ⟨k, att, pick, data⟩) S w) := by
  have hA0 := A1.start h hS k att pick
  obtain ⟨i, hi⟩ : ∃ i, i = ix att all.length := ⟨_, rfl⟩
  have hil : i < all.length := by rw [hi]; exact ix_lt _ _ h.pos
  have HIX : Hid (att % ((all.length : Nat) : Int) = (i : Int)) := by rw [hi]; exact ix_int _ _ h.pos
  have HII := Lib.hid hi
  have HKM : Hid (k % 10 = ((6 : Nat) : Int)) := hkm
  clear hi hkm
  obtain ⟨ga, hga, hac, hacm, _⟩ := HI_row h
  obtain ⟨b, hb0⟩ : ∃ b, b = bs.getD i 0 := ⟨_, rfl⟩
  obtain ⟨n, hnl⟩ : ∃ n, n = all.length := ⟨_, rfl⟩
  have hrt := Lib.hid h.rt
  have hapos := h.pos
  have HBB : Hid (bs.getD i 0 = b) := hb0.symm
  have HNL : Hid (all.length = n) := hnl.symm
  have HGA := Lib.hid hga
  rw [← hnl] at hil hac hapos hall HIX
  have hin : (i : Int) < (n : Int) := by omega
  have HIL : Hid (i < all.length) := by show _ < _; rw [HNL.out]; exact hil
  clear hb0 hnl
  have t0 : ((6 : Int) == 0) = false := by decide
  have t1 : ((6 : Int) == 1) = false := by decide
  have t2 : ((6 : Int) == 2) = false := by decide
  have t3 : ((6 : Int) == 3) = false := by decide
  have t4 : ((6 : Int) == 4) = false := by decide
  have t5 : ((6 : Int) == 5) = false := by decide
  have t6 : ((6 : Int) == 6) = true := by decide
  subst hga
  have HH := Lib.hid h
  have HS := Lib.hid hS
  clear h hS
  go_enter Try.func39, Try.ntmps39
  go_wp2_with fail
  have R0 := hA0.keep (Fr.refl _ _).drew
  go_region_held3 (fun w' => w'.cell? ⟨hb, 1, none⟩ = some (.slice (some ⟨ga, 0, none⟩) n c1) ∧ w'.cell? ⟨w.heap.size, 1, none⟩ = some (.int .i64 att) ∧ w'.cell? ⟨w.heap.size, 3, none⟩ = some (.slice ad nd cd) ∧ w'.cell? ⟨ga, i, none⟩ = some (.pointer (some ⟨b, 0, none⟩)) ∧ A1 w base hb kind r o all saved bs ss (some ⟨ga, 0, none⟩) a2 c1 c2 S ad nd cd data k att pick w')
    (first | (exact R0.held HIL.out rfl HBB.out HNL.out) | (exact (R0.keep f5).held HIL.out rfl HBB.out HNL.out) | (go_keep))
    (first | (go_at_call 56; refine (place_nat att n i _ (by omega) (by omega) HIX.out).mono ?_; rintro e w4 ⟨rfl, rfl⟩) | (go_at_call 61; refine (copied_n ad nd cd data _ R0.sl (by omega)).mono ?_; rintro e w5 ⟨ao, co, rfl, O5, f5⟩))
  have R5 := R0.keep f5
  have q0 : w5.cell? ⟨w.heap.size, 0, none⟩ = some (.int .i64 k) := by rw [cell_of R5.b1]; rfl
  have OW5 : Hid (Ow w5 (w.heap.size + 1 + 1) 5 ao co data) := by
    have e5 := O5
    rw [show (((w.alloc (.cells #[.int .i64 k, .int .i64 att, .int .i64 pick, .slice ad nd cd] 26)).alloc (.cells #[.int .i64 0, .slice none 0 0, .bool false, .bool false] 31)).drew).heap.size = w.heap.size + 1 + 1 by simp [World.drew]] at e5
    exact e5
  have H5 := Lib.hid R5
  clear O5 R5 R0 hA0 f5
  go_wp2_with fail
  refine (place_nat k 10 6 _ (by decide) (by decide) HKM.out).mono ?_
  rintro e w5 ⟨rfl, rfl⟩
  clear q0
  have hs5 : Hid (HsAt w5 b 86 r o (all.getD i [])) := by have := H5.out.hi.hs i HIL.out; rw [HBB.out] at this; exact this
  have hbS : b ∈ S := by rw [← HBB.out]; exact HH.out.bsS _ (getD_mem (by rw [HH.out.bl]; exact HIL.out))
  have hbw : b < w.heap.size := HH.out.lt_of hbS
  have HBS := Lib.hid hbS
  clear hbS
  go_wp2_with fail
  obtain ⟨i0, hi0, hz0, hz1, hz2⟩ := info_parts infoPT
  have H5d : HI 60 56 22 86 w5.drew base hb kind r o all saved bs ss (some ⟨ga, 0, none⟩) c1 a2 c2 S := H5.out.hi.keep0 (Fr.refl _ _).drew
  have q1 := (kind_cell H5d HNL.out).1
  have q2 := (kind_cell H5d HNL.out).2.1
  have HKR := Lib.hid (And.intro hkr hko)
  clear hkr hko
  have HD5 := Lib.hid H5d
  clear H5d
  have hb5 : w.heap.size + 1 + 1 ≤ w5.heap.size := by have := (Array.getElem?_eq_some_iff.1 H5.out.b2).1; omega
  have hbase := (HH.out.Slt hb HH.out.hbS)
  go_region_law (first
    | (go_simp; go_at_call 38; refine (newHash_any kind _).mono ?_; rintro e w6 ⟨g, rfl, hg1, hg2, h6, f6⟩; have q3 := (kind_cell (HD5.out.keep0 f6) HNL.out).2.1; have q4 := (kind_cell ((HD5.out.keep0 f6).keep0 ((Fr.refl [] _).alloc (.cells #[.pointer (some ⟨g, 0, none⟩)] 56))) HNL.out).2.1; have H6 := Lib.hid (HD5.out.keep0 f6); have HS6 := Lib.hid h6; have hsz6 : w5.heap.size ≤ w6.heap.size := f6.size; clear h6)
    | (refine step_append_srcN _ rfl _ _ 58 58 rfl base 56 i0 (.pointer none) 1 8 Try.underlying58 hi0 hz0 hz1 hz2 rfl (some ⟨ga, 0, none⟩) n c1 (bs.map ptr) rfl (by have := (H6.out.keep0 ((Fr.refl _ _).alloc (.cells #[.pointer (some ⟨g, 0, none⟩)] 56))).rowA; rw [HNL.out] at this; exact this) _ 1 [ptr g] rfl (Src_one Try.underlying58 (ptr g) rfl 56) (by unfold maxLen; omega) (by omega) (by simp; omega) ?_; intro a7 c7 w7 ho hg ha; have q8 := grown_blk (H6.out.keep0 ((Fr.refl _ _).alloc (.cells #[.pointer (some ⟨g, 0, none⟩)] 56))) HNL.out hg))
  all_goals
    have hw6 : w.heap.size ≤ w6.heap.size := by omega
    have P7 := HI.push HD5.out (wB := w6.alloc (.cells #[.pointer (some ⟨g, 0, none⟩)] 56)) (wC := w7) (g := g) (c1' := c7) (a1' := a7) (data := []) (f6.trans ((Fr.refl _ _).alloc _)) (by rw [HKR.out.1, HKR.out.2]; exact HS6.out.keep ((Fr.refl [] _).alloc _) (by simp)) hg1 (Nat.le_trans (Nat.le_of_lt hbase.2 |> Nat.le_trans hbase.1) (Nat.le_trans H5.out.fr.size (Nat.le_refl _))) (by rw [HNL.out]; exact ho) (by rw [HNL.out]; exact hg) ha
    rw [HNL.out] at P7
    have HP7 := Lib.hid P7
    have hsub := push_sub (wB := w6.alloc (.cells #[.pointer (some ⟨g, 0, none⟩)] 56)) (g := g) (N := w.heap.size + 1 + 1) ha HD5.out.a1S (by have : w5.heap.size ≤ g := hg1; omega) (by simp; omega)
    have HSUB := Lib.hid hsub
    clear P7 ho hg q1 q2 q3 q4 q8 hsub
    generalize w7.setCell ⟨hb, 1, none⟩ (.slice a7 (n + 1) c7) = w8 at HP7 ⊢
    have G8 : Hid (w8.heap[w.heap.size + 1]? = some (.cells #[.int .i64 0, .slice none 0 0, .bool false, .bool false] 31 (0, 0))) := HP7.out.2.obj H5.out.b2 (fun hm => by have := HH.out.lt_of hm; omega)
    go_wp2_with (refine wpList_store_bits rfl _ _ _ rfl (w.heap.size + 1) rfl 31 #[.int .i64 0, .slice none 0 0, .bool false, .bool false] #[.int .i64 0, .slice none 0 0, .bool false, .bool false] rfl G8.out rfl (by intro v hv; simp at hv; rcases hv with rfl | rfl | rfl | rfl <;> rfl) sizeRT ?_; refine Hid.out ?_)
    show wpList _ _ _ _ _ _
    have G9 := Lib.hid (setRow_heap _ _ _ (#[.int .i64 0, .slice none 0 0, .bool false, .bool false] : Array Value) _ _ G8.out)
    have f9 : Fr [w.heap.size + 1] w8 (w8.setRow (w.heap.size + 1) #[.int .i64 0, .slice none 0 0, .bool false, .bool false]) := (Fr.refl _ _).setRow _ _ (.inr (by simp))
    generalize w8.setRow (w.heap.size + 1) #[.int .i64 0, .slice none 0 0, .bool false, .bool false] = w9 at G9 f9 ⊢
    go_wp2_with fail
    refine bodyPost_ret (v := .agg #[.int .i64 0, .slice none 0 0, .bool false, .bool false]) (results_cell_row rfl _ _ (w.heap.size + 1) _ _ _ _ rfl G9.out Try.underlying31 rfl sizeRT) rfl ?_
    have e9 : ix k 10 = 6 := by unfold ix; have := HKM.out; omega
    have F9 : Fr S w w9 := Fr_trans_new ((H5.out.fr.mono (by simp)).trans (⟨HP7.out.2.os, HP7.out.2.tape, HP7.out.2.output, HP7.out.2.size, HP7.out.2.block⟩ : Fr S w5 w8)) f9 (by simp)
    have K9 := HI_keepNew HP7.out.1 f9 (fun x hx => ⟨fun hm => by
      simp only [List.mem_cons, List.not_mem_nil, or_false] at hx
      subst hx
      rcases HSUB.out _ hm with h1 | h1
      · have := HH.out.lt_of h1
        omega
      · omega, fun j hj => ((newOk HH.out) x hx).2 j hj⟩)
    refine ⟨none, 0, _, ?_, ?_, ?_, F9, fun x hx => (HSUB.out x hx).imp id (fun h => by omega), fun y hy => by cases hy⟩
    · simp only [stepH, e9]; rfl
    · simp only [stepH, e9]; exact Ow.nil _ _ _
    · simp only [stepH, e9]; exact ⟨_, _, _, _, _, _, K9⟩

end Go.Proofs.Ytfgfhdkedmgfiaa
end

section
namespace Go.Proofs.Ytfgfhdkedmgfiaa
open Go.ChangeShapes Go.WideShapes Go.ChangeAt Go.RowKit Go.Sha
/-- a clone behind all hashes -/
def ClR (base hb : Nat) (kind : Int) (r o : Nat) (all saved : List Bs) (S : List Nat) (w : World) (e : Ending) (w' : World) : Prop :=
  e = .returned (.agg #[.int .i64 0, .slice none 0 0, .bool true, .bool false]) ∧ ∃ bs' ss' a1' c1' a2' c2' S', HI 60 56 22 86 w' base hb kind r o all saved bs' ss' a1' c1' a2' c2' S' ∧ Fr S w w' ∧ ∀ k ∈ S', k ∈ S ∨ w.heap.size ≤ k
set_option maxRecDepth 100000 in
set_option maxHeartbeats 600000 in
theorem hclone_any (w : World) (base hb : Nat) (kind : Int) (r o : Nat) (all saved : List Bs) (bs : List Nat) (ss : List (Nat × Nat)) (a1 a2 : Option Addr) (c1 c2 : Nat) (S : List Nat) (i b : Nat) (h : HI 60 56 22 86 w base hb kind r o all saved bs ss a1 c1 a2 c2 S) (hi : i < all.length) (hbb : bs.getD i 0 = b) (hall : all.length ≤ 3000000000000) :
    Calls Try.prog 67 #[.pointer (some ⟨hb, 0, none⟩), .pointer (some ⟨b, 0, none⟩)] w (ClR base hb kind r o (all ++ [all.getD i []]) saved S w) := by
  obtain ⟨i0, hi0, hz0, hz1, hz2⟩ := info_parts infoPT
  obtain ⟨ga, hga, hac, hacm, _⟩ := HI_row h
  subst hga
  obtain ⟨n, hnl⟩ : ∃ n, n = all.length := ⟨_, rfl⟩
  have HNL : Hid (all.length = n) := hnl.symm
  rw [← hnl] at hac hall
  have HIL := Lib.hid hi
  have HBB := Lib.hid hbb
  have HH := Lib.hid h
  have hbase := (HH.out.Slt hb HH.out.hbS)
  clear hnl hi hbb h
  go_enter Try.func67, Try.ntmps67
  go_wp2_with fail
  have f1 : Fr [] w (w.alloc (.cells #[.int .i64 0, .slice none 0 0, .bool false, .bool false] 31)) := (Fr.refl _ _).alloc _
  have B1 : Hid ((w.alloc (.cells #[.int .i64 0, .slice none 0 0, .bool false, .bool false] 31)).heap[w.heap.size]? = some (.cells #[.int .i64 0, .slice none 0 0, .bool false, .bool false] 31 (0, 0))) := Go.heap_alloc_new w (.cells #[.int .i64 0, .slice none 0 0, .bool false, .bool false] 31)
  have z1 : (w.alloc (.cells #[.int .i64 0, .slice none 0 0, .bool false, .bool false] 31)).heap.size = w.heap.size + 1 := by simp
  have Z1 := Lib.hid z1
  clear z1
  have H1 := Lib.hid (HH.out.keep0 f1)
  generalize w.alloc (.cells #[.int .i64 0, .slice none 0 0, .bool false, .bool false] 31) = w1 at f1 B1 Z1 H1 ⊢
  have hs1 : HsAt w1 b 86 r o (all.getD i []) := by have := H1.out.hs i HIL.out; rw [HBB.out] at this; exact this
  refine (shaClone_any w1 b r o _ hs1).mono ?_
  rintro e w2 ⟨rfl, h2, f2⟩
  obtain ⟨g, hg⟩ : ∃ g, g = w1.heap.size := ⟨_, rfl⟩
  rw [← hg] at h2 ⊢
  have HG := Lib.hid hg
  have HS2 := Lib.hid h2
  have B2 : Hid (w2.heap[w.heap.size]? = some (.cells #[.int .i64 0, .slice none 0 0, .bool false, .bool false] 31 (0, 0))) := f2.obj B1.out (by simp)
  have H2 := Lib.hid (H1.out.keep0 f2)
  have B1' := B1
  clear hg h2 hs1 B1
  have hg2 : g < w2.heap.size := HS2.out.lt
  have hgw : w.heap.size + 1 ≤ g := by have := HG.out; have := Z1.out; omega
  go_wp2_with fail
  have q1 := (kind_cell H2.out HNL.out).2.1
  have H3 : Hid (HI 60 56 22 86 ((w2.alloc (.cells #[.pointer (some ⟨g, 0, none⟩)] 56)).drew) base hb kind r o all saved bs ss (some ⟨ga, 0, none⟩) c1 a2 c2 S) := (H2.out.keep0 ((Fr.refl _ _).alloc _)).keep0 (Fr.refl _ _).drew
  have q2 := (kind_cell H3.out HNL.out).2.1
  have S3 : Hid (Src Try.prog 1 58 (.slice (some ⟨w2.heap.size, 0, none⟩) 1 1) 1 [ptr g] ((w2.alloc (.cells #[.pointer (some ⟨g, 0, none⟩)] 56)).drew)) := Src_one (w := w2.drew) Try.underlying58 (ptr g) rfl 56
  have O3 : Hid (((w2.alloc (.cells #[.pointer (some ⟨g, 0, none⟩)] 56)).drew).ownsRow base 56 1 (.slice (some ⟨ga, 0, none⟩) n c1) n (bs.map ptr)) := by have := H3.out.rowA; rw [HNL.out] at this; exact this
  have X3 : Hid (base ≤ ((w2.alloc (.cells #[.pointer (some ⟨g, 0, none⟩)] 56)).drew).heap.size) := by show _ ≤ _; have := f2.size; have := f1.size; simp; omega
  have hta : ∀ (v : Value) (u : World), (Instr.typeAssert (.iface 56 v) 104 56 false).run Try.prog u = .ok v u := fun v u => by kernel_rfl
  go_region_law ((refine step_append_srcN _ rfl _ _ 58 58 rfl base 56 i0 (.pointer none) 1 8 Try.underlying58 hi0 hz0 hz1 hz2 rfl (some ⟨ga, 0, none⟩) n c1 (bs.map ptr) rfl O3.out _ 1 [ptr g] rfl S3.out (by unfold maxLen; omega) (by omega) X3.out ?_; intro a7 c7 w7 ho hg ha; have q8 := grown_blk H3.out HNL.out hg))
  all_goals
    have P7 := HI.push H1.out (wB := (w2.alloc (.cells #[.pointer (some ⟨g, 0, none⟩)] 56)).drew) (wC := w7) (g := g) (c1' := c7) (a1' := a7) (data := all.getD i []) (f2.trans (((Fr.refl _ _).alloc _).drew)) (HS2.out.keep (((Fr.refl [] _).alloc _).drew) (by simp)) (by have := HG.out; omega) (by have := f1.size; omega) (by rw [HNL.out]; exact ho) (by rw [HNL.out]; exact hg) ha
    rw [HNL.out] at P7
    have HP7 := Lib.hid P7
    have hsub := push_sub (wB := (w2.alloc (.cells #[.pointer (some ⟨g, 0, none⟩)] 56)).drew) (g := g) (N := w.heap.size + 1) ha H2.out.a1S hgw (by have := f2.size; have := Z1.out; simp; omega)
    have HSUB := Lib.hid hsub
    clear P7 ho hg q1 q2 q8 hsub O3 S3 X3
    generalize w7.setCell ⟨hb, 1, none⟩ (.slice a7 (n + 1) c7) = w8 at HP7 ⊢
    have f18 : Fr S w1 w8 := HP7.out.2
    have B8 : Hid (w8.heap[w.heap.size]? = some (.cells #[.int .i64 0, .slice none 0 0, .bool false, .bool false] 31 (0, 0))) := f18.obj B1'.out (fun hm => by have := HH.out.lt_of hm; omega)
    go_wp2_with (refine wpList_store_bits rfl _ _ _ rfl (w.heap.size) rfl 31 #[.int .i64 0, .slice none 0 0, .bool true, .bool false] #[.int .i64 0, .slice none 0 0, .bool false, .bool false] rfl B8.out rfl (by intro v hv; simp at hv; rcases hv with rfl | rfl | rfl | rfl <;> rfl) sizeRT ?_; refine Hid.out ?_)
    show wpList _ _ _ _ _ _
    have G9 := Lib.hid (setRow_heap _ _ _ (#[.int .i64 0, .slice none 0 0, .bool true, .bool false] : Array Value) _ _ B8.out)
    have f9 : Fr [w.heap.size] w8 (w8.setRow (w.heap.size) #[.int .i64 0, .slice none 0 0, .bool true, .bool false]) := (Fr.refl _ _).setRow _ _ (.inr (by simp))
    generalize w8.setRow (w.heap.size) #[.int .i64 0, .slice none 0 0, .bool true, .bool false] = w9 at G9 f9 ⊢
    go_wp2_with fail
    refine bodyPost_ret (v := .agg #[.int .i64 0, .slice none 0 0, .bool true, .bool false]) (results_cell_row rfl _ _ (w.heap.size) _ _ _ _ rfl G9.out Try.underlying31 rfl sizeRT) rfl ?_
    have F9 : Fr S w w9 := Fr_trans_new ((f1.mono (by simp)).trans f18 : Fr S w w8) f9 (by simp)
    have K9 := HI_keepNew HP7.out.1 f9 (fun x hx => ⟨fun hm => by
      simp only [List.mem_cons, List.not_mem_nil, or_false] at hx
      subst hx
      rcases HSUB.out _ hm with h1 | h1
      · have := HH.out.lt_of h1
        omega
      · omega, fun j hj e => by
      simp only [List.mem_cons, List.not_mem_nil, or_false] at hx
      have := (HH.out.sv j hj).1.lt (x := ⟨(ss.getD j (0, 0)).1, 0, none⟩) rfl (by decide)
      simp only at this
      omega⟩)
    exact ⟨rfl, _, _, _, _, _, _, _, K9, F9, fun x hx => (HSUB.out x hx).imp id (fun h => by omega)⟩

end Go.Proofs.Ytfgfhdkedmgfiaa
end

section
namespace Go.Sha
open Go.RowKit
/-- the end of a slice -/
theorem Sl.drop {w : World} {b o n c : Nat} {l : Bs} (h : Sl w (some ⟨b, o, none⟩) n c l) (k : Nat) (hk : k ≤ n) (h0 : n ≠ 0) : Sl w (some ⟨b, o + k, none⟩) (n - k) (c - k) (l.drop k) := by
  have h1 := h.len
  have h2 := h.cap
  have h3 := h.max
  refine ⟨by simp; omega, by omega, by omega, ?_⟩
  rcases h.cel with h4 | ⟨b', o', e, hc⟩
  · exact absurd h4 h0
  · simp only [Option.some.injEq, Addr.mk.injEq] at e
    obtain ⟨rfl, rfl, _⟩ := e
    refine .inr ⟨b, o + k, rfl, fun i hi => ?_⟩
    rw [Nat.add_assoc, hc (k + i) (by omega)]
    simp [List.getD_eq_getElem?_getD]
end Go.Sha
namespace Go.Proofs.Ytfgfhdkedmgfiaa
open Go.ChangeShapes Go.WideShapes Go.ChangeAt Go.RowKit Go.Sha
theorem Ow_at0 {w : World} {base e c : Nat} {a : Option Addr} {l : Bs} (h : Ow w base e a c l) (hl : 0 < l.length) : ∃ g, a = some ⟨g, 0, none⟩ ∧ base ≤ g ∧ l.length ≤ c ∧ c ≤ maxLen := by
  obtain ⟨g, cur, h1, h2, _, h3, h4, _⟩ := h.open hl
  exact ⟨g, h1, h2, h3, h4⟩
theorem infoSU : (Try.prog.info? 22).map (fun i => (i.zero, i.size, i.bytes)) = some (some (.slice none 0 0), 1, 24) := by kernel_rfl
theorem saved_cell {w : World} {base hb : Nat} {kind : Int} {r o : Nat} {all saved : List Bs} {bs : List Nat} {ss : List (Nat × Nat)} {a1 a2 : Option Addr} {c1 c2 : Nat} {S : List Nat} (h : HI 60 56 22 86 w base hb kind r o all saved bs ss a1 c1 a2 c2 S) {n : Nat} (hn : saved.length = n) :
    w.cell? ⟨hb, 2, none⟩ = some (.slice a2 n c2) ∧ w.frozen? ⟨hb, 2, none⟩ = false := by
  subst hn
  exact ⟨by rw [cell_of h.blk]; rfl, by simp [World.frozen?, h.blk]⟩
theorem grown_blk2 {wB wC : World} {base hb : Nat} {kind : Int} {r o : Nat} {all saved : List Bs} {bs : List Nat} {ss : List (Nat × Nat)} {a1 a2 : Option Addr} {c1 c2 n : Nat} {S : List Nat} (h : HI 60 56 22 86 wB base hb kind r o all saved bs ss a1 c1 a2 c2 S) (hn : saved.length = n) (hgr : wB.grownBy wC (Value.slice a2 n c2).ownBlock) :
    wC.cell? ⟨hb, 2, none⟩ = some (.slice a2 n c2) ∧ wC.frozen? ⟨hb, 2, none⟩ = false := by
  subst hn
  have fBC : Fr (blkOf a2) wB wC := by
    rw [← ownBlock_blkOf a2 saved.length c2]
    exact (Fr.refl _ _).grown hgr (fun k hk => by rw [hk]; exact .inr (by simp))
  have hblkC := fBC.obj h.blk (fun hm => by
    obtain ⟨x, hx, e⟩ := mem_blkOf.1 hm
    exact (h.a2bs x hx).1 e)
  exact ⟨by rw [cell_of hblkC]; rfl, by simp [World.frozen?, hblkC]⟩
theorem save_sub {wB : World} {a2 a2' : Option Addr} {S : List Nat} {N : Nat} (ha : a2' = a2 ∨ a2' = some ⟨wB.heap.size, 0, none⟩) (h1 : ∀ x, a2 = some x → x.block ∈ S) (hB : N ≤ wB.heap.size) : ∀ k ∈ blkOf a2' ++ S, k ∈ S ∨ N ≤ k := fun k hk => by
  rcases List.mem_append.1 hk with hk | hk
  · obtain ⟨x, hx, rfl⟩ := mem_blkOf.1 hk
    rcases ha with rfl | rfl
    · exact .inl (h1 x hx)
    · simp only [Option.some.injEq] at hx
      subst hx
      exact .inr hB
  · exact .inl hk
/-- what a saved state leaves -/
def SvR (base hb : Nat) (kind : Int) (r o : Nat) (p : Bs) (all saved : List Bs) (S : List Nat) (w : World) (e : Ending) (w' : World) : Prop :=
  ∃ a c bs' ss' a1' c1' a2' c2' S', e = .returned (.agg #[.int .i64 0, .slice a p.length c, .bool true, .bool false]) ∧ Ow w' w.heap.size 5 a c p ∧ HI 60 56 22 86 w' base hb kind r o all saved bs' ss' a1' c1' a2' c2' S' ∧ Fr S w w' ∧ (∀ k ∈ S', k ∈ S ∨ w.heap.size ≤ k) ∧ ∀ y, a = some y → y.block ∉ S'
set_option maxRecDepth 100000 in
set_option maxHeartbeats 800000 in
theorem hsave_any (w : World) (base hb : Nat) (kind : Int) (r o : Nat) (all saved : List Bs) (bs : List Nat) (ss : List (Nat × Nat)) (a1 a2 : Option Addr) (c1 c2 : Nat) (S : List Nat) (abf : Option Addr) (nb cbf gs os cs : Nat) (p d : Bs) (h : HI 60 56 22 86 w base hb kind r o all saved bs ss a1 c1 a2 c2 S) (hp : p.length = nb) (hSt : Sl w (some ⟨gs, os, none⟩) (nb + 207) cs (p ++ marH r o d)) (hgs : gs ∉ S) (hnb : nb ≤ 140737488351232) (hsv : saved.length ≤ 3000000000000) :
    Calls Try.prog 69 #[.pointer (some ⟨hb, 0, none⟩), .slice abf nb cbf, .slice (some ⟨gs, os, none⟩) (nb + 207) cs, .nilIface] w (SvR base hb kind r o p all (saved ++ [d]) S w) := by
  obtain ⟨i0, hi0, hz0, hz1, hz2⟩ := info_parts infoSU
  obtain ⟨n, hnl⟩ : ∃ n, n = saved.length := ⟨_, rfl⟩
  have HNL : Hid (saved.length = n) := hnl.symm
  rw [← hnl] at hsv
  have HH := Lib.hid h
  have hbase := (HH.out.Slt hb HH.out.hbS)
  have HP := Lib.hid hp
  have HST := Lib.hid hSt
  have HGS := Lib.hid hgs
  have hcap := hSt.cap
  have hmx := hSt.max
  unfold maxLen at hmx
  have hgl := hSt.lt (x := ⟨gs, os, none⟩) rfl (by omega)
  simp only at hgl
  clear hnl h hp hSt hgs
  have mn : min (nb : Int) ((nb : Int) + 207) = (nb : Int) := by omega
  have z1 : ¬ cs = nb := by omega
  have z2 : nb + 207 - nb = 207 := by omega
  have z3 : (nb : Int) ≤ (nb : Int) + 207 := by omega
  go_enter Try.func69, Try.ntmps69
  go_wp2_with fail
  have f1 : Fr [] w (w.alloc (.cells #[.int .i64 0, .slice none 0 0, .bool false, .bool false] 31)) := (Fr.refl _ _).alloc _
  have B1 : Hid ((w.alloc (.cells #[.int .i64 0, .slice none 0 0, .bool false, .bool false] 31)).heap[w.heap.size]? = some (.cells #[.int .i64 0, .slice none 0 0, .bool false, .bool false] 31 (0, 0))) := Go.heap_alloc_new w (.cells #[.int .i64 0, .slice none 0 0, .bool false, .bool false] 31)
  have zz1 : (w.alloc (.cells #[.int .i64 0, .slice none 0 0, .bool false, .bool false] 31)).heap.size = w.heap.size + 1 := by simp
  have Z1 := Lib.hid zz1
  clear zz1
  have H1 := Lib.hid (HH.out.keep0 f1)
  have S1 := Lib.hid (HST.out.keep0 f1)
  generalize w.alloc (.cells #[.int .i64 0, .slice none 0 0, .bool false, .bool false] 31) = w1 at f1 B1 Z1 H1 S1 ⊢
  have S1d : Hid (Sl w1.drew (some ⟨gs, os + nb, none⟩) 207 (cs - nb) (marH r o d)) := by
    have e := (S1.out.keep0 (Fr.refl _ _).drew).drop nb (by omega) (by omega)
    rw [List.drop_left' HP.out, z2] at e
    exact e
  have q1 := (saved_cell (H1.out.keep0 (Fr.refl _ _).drew) HNL.out).1
  have hml : (marH r o d).length = 207 := marH_length _ _ _ HH.out.rt
  have HML := Lib.hid hml
  clear hml
  go_region_law (first
    | (go_simp; go_at_call 61; refine (copied_n _ 207 _ (marH r o d) _ S1d.out (by omega)).mono ?_; rintro e w2 ⟨ac, cc, rfl, o2, f2⟩; obtain ⟨g, hac, hg1, hg2, hg3⟩ := Ow_at0 o2 (by rw [HML.out]; decide); rw [hac] at o2 ⊢; have O2 := Lib.hid o2; have q3 := (saved_cell (H1.out.keep0 ((Fr.refl _ _).drew.trans f2)) HNL.out).1; have q4 := (saved_cell (H1.out.keep0 ((Fr.refl _ _).drew.trans (f2.alloc (.cells #[.slice (some ⟨g, 0, none⟩) 207 cc] 22)))) HNL.out).1; have H2 := Lib.hid (H1.out.keep0 ((Fr.refl _ _).drew.trans f2)); have hsz2 : w1.heap.size ≤ w2.heap.size := f2.size; have HAC := Lib.hid hac; clear o2 hac)
    | (refine step_append_srcN _ rfl _ _ 44 44 rfl base 22 i0 (.slice none 0 0) 1 24 Try.underlying44 hi0 hz0 hz1 hz2 rfl a2 n c2 (ss.map slv) rfl (by have := (H2.out.keep0 ((Fr.refl _ _).alloc (.cells #[.slice (some ⟨g, 0, none⟩) 207 cc] 22))).rowS; rw [HNL.out] at this; exact this) _ 1 [slv (g, cc)] rfl (Src_one Try.underlying44 (slv (g, cc)) rfl 22) (by unfold maxLen; omega) (by omega) (by have := Z1.out; simp; omega) ?_; intro a7 c7 w7 ho hg ha; have q8 := grown_blk2 (H2.out.keep0 ((Fr.refl _ _).alloc (.cells #[.slice (some ⟨g, 0, none⟩) 207 cc] 22))) HNL.out hg))
  all_goals
    have P7 := HI.addSaved (H1.out.keep0 (Fr.refl _ _).drew) (wB := w2.alloc (.cells #[.slice (some ⟨g, 0, none⟩) 207 cc] 22)) (wC := w7) (g := g) (c := cc) (c2' := c7) (a2' := a7) (data := d) (f2.trans ((Fr.refl _ _).alloc _)) ((O2.out.sl_at HML.out).keep0 ((Fr.refl _ _).alloc _)) hg1 (by rw [HNL.out]; exact ho) (by rw [HNL.out]; exact hg) ha
    rw [HNL.out] at P7
    have HP7 := Lib.hid P7
    have hsub := save_sub (wB := w2.alloc (.cells #[.slice (some ⟨g, 0, none⟩) 207 cc] 22)) (N := w.heap.size + 1) ha HH.out.a2S (by have := Z1.out; simp; omega)
    have HSUB := Lib.hid hsub
    clear P7 ho hg q1 q3 q4 q8 hsub
    generalize w7.setCell ⟨hb, 2, none⟩ (.slice a7 (n + 1) c7) = w8 at HP7 ⊢
    have f18 : Fr S w1 w8 := ⟨HP7.out.2.os, HP7.out.2.tape, HP7.out.2.output, HP7.out.2.size, HP7.out.2.block⟩
    have B8 : Hid (w8.heap[w.heap.size]? = some (.cells #[.int .i64 0, .slice none 0 0, .bool false, .bool false] 31 (0, 0))) := f18.obj B1.out (fun hm => by have := HH.out.lt_of hm; omega)
    have S8 : Hid (Sl w8 (some ⟨gs, os, none⟩) nb cs p) := by
      have e := (S1.out.keep f18 (fun x hx _ => by simp only [Option.some.injEq] at hx; subst hx; exact HGS.out)).take nb (by omega)
      rw [List.take_left' HP.out] at e
      exact e
    have z4 : nb ≤ cs := by omega
    go_wp2_with fail
    refine (copied_n _ nb cs p _ S8.out (by omega)).mono ?_
    rintro e w6 ⟨a9, c9, rfl, o9, f69⟩
    have O9 := Lib.hid o9
    clear o9
    have B9 : Hid (w6.heap[w.heap.size]? = some (.cells #[.int .i64 0, .slice none 0 0, .bool false, .bool false] 31 (0, 0))) := f69.obj B8.out (by simp)
    go_wp2_with (refine wpList_store_bits rfl _ _ _ rfl (w.heap.size) rfl 31 #[.int .i64 0, .slice a9 nb c9, .bool true, .bool false] #[.int .i64 0, .slice none 0 0, .bool false, .bool false] rfl B9.out rfl (by intro v hv; simp at hv; rcases hv with rfl | rfl | rfl | rfl <;> rfl) sizeRT ?_; refine Hid.out ?_)
    show wpList _ _ _ _ _ _
    have G9 := Lib.hid (setRow_heap _ _ _ (#[.int .i64 0, .slice a9 nb c9, .bool true, .bool false] : Array Value) _ _ B9.out)
    have f9 : Fr [w.heap.size] w6 (w6.setRow (w.heap.size) #[.int .i64 0, .slice a9 nb c9, .bool true, .bool false]) := (Fr.refl _ _).setRow _ _ (.inr (by simp))
    generalize w6.setRow (w.heap.size) #[.int .i64 0, .slice a9 nb c9, .bool true, .bool false] = w9 at G9 f9 ⊢
    go_wp2_with fail
    refine bodyPost_ret (v := .agg #[.int .i64 0, .slice a9 nb c9, .bool true, .bool false]) (results_cell_row rfl _ _ (w.heap.size) _ _ _ _ rfl G9.out Try.underlying31 rfl sizeRT) rfl ?_
    have F9 : Fr S w w9 := Fr_trans_new (((f1.mono (by simp)).trans f18 : Fr S w w8).trans (f69.mono (by simp))) f9 (by simp)
    have hw8 : w.heap.size + 1 ≤ w8.heap.size := by have := f18.size; have := Z1.out; omega
    have K9 := HI_keepNew (HP7.out.1.keep0 f69) f9 (fun x hx => ⟨fun hm => by
      simp only [List.mem_cons, List.not_mem_nil, or_false] at hx
      subst hx
      rcases HSUB.out _ hm with h1 | h1
      · have := HH.out.lt_of h1
        omega
      · omega, fun j hj e => by
      simp only [List.mem_cons, List.not_mem_nil, or_false] at hx
      by_cases hjn : j < saved.length
      · rw [getD_append_lt _ _ _ _ (by rw [HH.out.sl]; exact hjn)] at e
        have := (HH.out.sv j hjn).1.lt (x := ⟨(ss.getD j (0, 0)).1, 0, none⟩) rfl (by decide)
        simp only at this
        omega
      · have ej : j = saved.length := by simp at hj; omega
        subst ej
        rw [show (ss ++ [(g, cc)]).getD saved.length (0, 0) = (g, cc) by rw [← HH.out.sl]; exact getD_append_eq ss (g, cc) (0, 0)] at e
        have h1 : w1.heap.size ≤ g := hg1
        have := Z1.out
        simp only at e
        omega⟩)
    have O9' : Ow w9 w8.heap.size 5 a9 c9 p := O9.out.keep f9 (fun x hx => by simp; omega)
    refine ⟨a9, c9, _, _, _, _, _, _, _, ?_, O9'.mono (by omega), K9, F9, fun x hx => (HSUB.out x hx).imp id (fun h => by omega), fun y hy hm => ?_⟩
    · rw [HP.out]
    · subst hy
      have h1 := O9'.block.2.2.1
      have h2 := (HP7.out.1.Slt _ hm).2
      omega

end Go.Proofs.Ytfgfhdkedmgfiaa
end

section
namespace Go.Proofs.Ytfgfhdkedmgfiaa
open Go.ChangeShapes Go.WideShapes Go.ChangeAt Go.RowKit Go.Sha
theorem sv_ne {w : World} {base hb : Nat} {kind : Int} {r o : Nat} {all saved : List Bs} {bs : List Nat} {ss : List (Nat × Nat)} {a1 a2 : Option Addr} {c1 c2 : Nat} {S : List Nat} (h : HI 60 56 22 86 w base hb kind r o all saved bs ss a1 c1 a2 c2 S) {x : Nat} {v0 v1 v2 v3 : Value} {T : Nat} (hx : w.heap[x]? = some (.cells #[v0, v1, v2, v3] T (0, 0))) (j : Nat) (hj : j < saved.length) : (ss.getD j (0, 0)).1 ≠ x := fun e => by
  have h1 := (h.sv j hj).1
  rcases h1.cel with h0 | ⟨b', o', hb', hc⟩
  · cases h0
  · simp only [Option.some.injEq, Addr.mk.injEq] at hb'
    obtain ⟨rfl, rfl, _⟩ := hb'
    have h2 := hc 5 (by decide)
    rw [e, cell_of hx] at h2
    simp at h2

set_option maxRecDepth 100000 in
set_option maxHeartbeats 600000 in
theorem act_clone (w : World) (base hb : Nat) (kind : Int) (r o : Nat) (all saved : List Bs) (bs : List Nat) (ss : List (Nat × Nat)) (a1 a2 : Option Addr) (c1 c2 : Nat) (S : List Nat) (ad : Option Addr) (nd cd : Nat) (data : Bs) (k att pick : Int) (h : HI 60 56 22 86 w base hb kind r o all saved bs ss a1 c1 a2 c2 S) (hS : Sl w ad nd cd data) (hnd : nd ≤ 140737488351232) (hall : all.length ≤ 3000000000000) (hkm : k % 10 = ((5 : Nat) : Int)) :
    Calls Try.prog 39 #[.pointer (some ⟨hb, 0, none⟩), .agg #[.int .i64 k, .int .i64 att, .int .i64 pick, .slice ad nd cd]] w (ActR base hb kind r o (stepH r o all saved ⟨k, att, pick, data⟩) S w) := by
  have hA0 := A1.start h hS k att pick
  obtain ⟨i, hi⟩ : ∃ i, i = ix att all.length := ⟨_, rfl⟩
  have hil : i < all.length := by rw [hi]; exact ix_lt _ _ h.pos
  have HIX : Hid (att % ((all.length : Nat) : Int) = (i : Int)) := by rw [hi]; exact ix_int _ _ h.pos
  have HII := Lib.hid hi
  have HKM : Hid (k % 10 = ((5 : Nat) : Int)) := hkm
  clear hi hkm
  obtain ⟨ga, hga, hac, hacm, _⟩ := HI_row h
  obtain ⟨b, hb0⟩ : ∃ b, b = bs.getD i 0 := ⟨_, rfl⟩
  obtain ⟨n, hnl⟩ : ∃ n, n = all.length := ⟨_, rfl⟩
  have hrt := Lib.hid h.rt
  have hapos := h.pos
  have HBB : Hid (bs.getD i 0 = b) := hb0.symm
  have HNL : Hid (all.length = n) := hnl.symm
  have HGA := Lib.hid hga
  rw [← hnl] at hil hac hapos hall HIX
  have hin : (i : Int) < (n : Int) := by omega
  have HIL : Hid (i < all.length) := by show _ < _; rw [HNL.out]; exact hil
  clear hb0 hnl
  have t0 : ((5 : Int) == 0) = false := by decide
  have t1 : ((5 : Int) == 1) = false := by decide
  have t2 : ((5 : Int) == 2) = false := by decide
  have t3 : ((5 : Int) == 3) = false := by decide
  have t4 : ((5 : Int) == 4) = false := by decide
  have t5 : ((5 : Int) == 5) = true := by decide
  subst hga
  have HH := Lib.hid h
  have HS := Lib.hid hS
  clear h hS
  go_enter Try.func39, Try.ntmps39
  go_wp2_with fail
  have R0 := hA0.keep (Fr.refl _ _).drew
  go_region_held3 (fun w' => w'.cell? ⟨hb, 1, none⟩ = some (.slice (some ⟨ga, 0, none⟩) n c1) ∧ w'.cell? ⟨w.heap.size, 1, none⟩ = some (.int .i64 att) ∧ w'.cell? ⟨w.heap.size, 3, none⟩ = some (.slice ad nd cd) ∧ w'.cell? ⟨ga, i, none⟩ = some (.pointer (some ⟨b, 0, none⟩)) ∧ A1 w base hb kind r o all saved bs ss (some ⟨ga, 0, none⟩) a2 c1 c2 S ad nd cd data k att pick w')
    (first | (exact R0.held HIL.out rfl HBB.out HNL.out) | (exact (R0.keep f5).held HIL.out rfl HBB.out HNL.out) | (go_keep))
    (first | (go_at_call 56; refine (place_nat att n i _ (by omega) (by omega) HIX.out).mono ?_; rintro e w4 ⟨rfl, rfl⟩) | (go_at_call 61; refine (copied_n ad nd cd data _ R0.sl (by omega)).mono ?_; rintro e w5 ⟨ao, co, rfl, O5, f5⟩))
  have R5 := R0.keep f5
  have q0 : w5.cell? ⟨w.heap.size, 0, none⟩ = some (.int .i64 k) := by rw [cell_of R5.b1]; rfl
  have OW5 : Hid (Ow w5 (w.heap.size + 1 + 1) 5 ao co data) := by
    have e5 := O5
    rw [show (((w.alloc (.cells #[.int .i64 k, .int .i64 att, .int .i64 pick, .slice ad nd cd] 26)).alloc (.cells #[.int .i64 0, .slice none 0 0, .bool false, .bool false] 31)).drew).heap.size = w.heap.size + 1 + 1 by simp [World.drew]] at e5
    exact e5
  have H5 := Lib.hid R5
  clear O5 R5 R0 hA0 f5
  go_wp2_with fail
  refine (place_nat k 10 5 _ (by decide) (by decide) HKM.out).mono ?_
  rintro e w5 ⟨rfl, rfl⟩
  clear q0
  have hs5 : Hid (HsAt w5 b 86 r o (all.getD i [])) := by have := H5.out.hi.hs i HIL.out; rw [HBB.out] at this; exact this
  have hbS : b ∈ S := by rw [← HBB.out]; exact HH.out.bsS _ (getD_mem (by rw [HH.out.bl]; exact HIL.out))
  have hbw : b < w.heap.size := HH.out.lt_of hbS
  have HBS := Lib.hid hbS
  clear hbS
  go_wp2_with fail
  refine (hclone_any w5 base hb kind r o all saved bs ss _ _ _ _ S i b H5.out.hi HIL.out HBB.out (by rw [HNL.out]; exact hall)).mono ?_
  rintro e w6 ⟨rfl, bs', ss', a1', c1', a2', c2', S', k6, f6, hsub⟩
  have K6 := Lib.hid k6
  have HSUB := Lib.hid hsub
  clear k6 hsub
  have G6 : Hid (w6.heap[w.heap.size + 1]? = some (.cells #[.int .i64 0, .slice none 0 0, .bool false, .bool false] 31 (0, 0))) := f6.obj H5.out.b2 (fun hm => by have := HH.out.lt_of hm; omega)
  go_wp2_with (refine wpList_store_bits rfl _ _ _ rfl (w.heap.size + 1) rfl 31 #[.int .i64 0, .slice none 0 0, .bool true, .bool false] #[.int .i64 0, .slice none 0 0, .bool false, .bool false] rfl G6.out rfl (by intro v hv; simp at hv; rcases hv with rfl | rfl | rfl | rfl <;> rfl) sizeRT ?_; refine Hid.out ?_)
  show wpList _ _ _ _ _ _
  have G9 := Lib.hid (setRow_heap _ _ _ (#[.int .i64 0, .slice none 0 0, .bool true, .bool false] : Array Value) _ _ G6.out)
  have f9 : Fr [w.heap.size + 1] w6 (w6.setRow (w.heap.size + 1) #[.int .i64 0, .slice none 0 0, .bool true, .bool false]) := (Fr.refl _ _).setRow _ _ (.inr (by simp))
  generalize w6.setRow (w.heap.size + 1) #[.int .i64 0, .slice none 0 0, .bool true, .bool false] = w9 at G9 f9 ⊢
  go_wp2_with fail
  refine bodyPost_ret (v := .agg #[.int .i64 0, .slice none 0 0, .bool true, .bool false]) (results_cell_row rfl _ _ (w.heap.size + 1) _ _ _ _ rfl G9.out Try.underlying31 rfl sizeRT) rfl ?_
  have F9 : Fr S w w9 := Fr_trans_new ((H5.out.fr.mono (by simp)).trans f6 : Fr S w w6) f9 (by simp)
  have hb5 : w.heap.size + 1 + 1 ≤ w5.heap.size := by have := (Array.getElem?_eq_some_iff.1 H5.out.b2).1; omega
  have K9 := HI_keepNew K6.out f9 (fun x hx => ⟨fun hm => by
    simp only [List.mem_cons, List.not_mem_nil, or_false] at hx
    subst hx
    rcases HSUB.out _ hm with h1 | h1
    · have := HH.out.lt_of h1
      omega
    · omega, fun j hj => by
    simp only [List.mem_cons, List.not_mem_nil, or_false] at hx
    subst hx
    exact sv_ne K6.out G6.out j hj⟩)
  have e9 : ix k 10 = 5 := by unfold ix; have := HKM.out; omega
  refine ⟨none, 0, S', ?_, ?_, ?_, F9, fun x hx => (HSUB.out x hx).imp id (fun h => by omega), fun y hy => by cases hy⟩
  · simp only [stepH, e9]; rfl
  · simp only [stepH, e9]; exact Ow.nil _ _ _
  · simp only [stepH, e9]; exact ⟨_, _, _, _, _, _, by rw [← HII.out]; exact K9⟩

set_option maxRecDepth 100000 in
set_option maxHeartbeats 600000 in
theorem act_save (w : World) (base hb : Nat) (kind : Int) (r o : Nat) (all saved : List Bs) (bs : List Nat) (ss : List (Nat × Nat)) (a1 a2 : Option Addr) (c1 c2 : Nat) (S : List Nat) (ad : Option Addr) (nd cd : Nat) (data : Bs) (k att pick : Int) (h : HI 60 56 22 86 w base hb kind r o all saved bs ss a1 c1 a2 c2 S) (hS : Sl w ad nd cd data) (hnd : nd ≤ 140737488351232) (hall : all.length ≤ 3000000000000) (hsvl : saved.length ≤ 3000000000000) (hkm : k % 10 = ((7 : Nat) : Int)) :
    Calls Try.prog 39 #[.pointer (some ⟨hb, 0, none⟩), .agg #[.int .i64 k, .int .i64 att, .int .i64 pick, .slice ad nd cd]] w (ActR base hb kind r o (stepH r o all saved ⟨k, att, pick, data⟩) S w) := by
  have hA0 := A1.start h hS k att pick
  obtain ⟨i, hi⟩ : ∃ i, i = ix att all.length := ⟨_, rfl⟩
  have hil : i < all.length := by rw [hi]; exact ix_lt _ _ h.pos
  have HIX : Hid (att % ((all.length : Nat) : Int) = (i : Int)) := by rw [hi]; exact ix_int _ _ h.pos
  have HII := Lib.hid hi
  have HKM : Hid (k % 10 = ((7 : Nat) : Int)) := hkm
  clear hi hkm
  obtain ⟨ga, hga, hac, hacm, _⟩ := HI_row h
  obtain ⟨b, hb0⟩ : ∃ b, b = bs.getD i 0 := ⟨_, rfl⟩
  obtain ⟨n, hnl⟩ : ∃ n, n = all.length := ⟨_, rfl⟩
  have hrt := Lib.hid h.rt
  have hapos := h.pos
  have HBB : Hid (bs.getD i 0 = b) := hb0.symm
  have HNL : Hid (all.length = n) := hnl.symm
  have HGA := Lib.hid hga
  rw [← hnl] at hil hac hapos hall HIX
  have hin : (i : Int) < (n : Int) := by omega
  have HIL : Hid (i < all.length) := by show _ < _; rw [HNL.out]; exact hil
  clear hb0 hnl
  have t0 : ((7 : Int) == 0) = false := by decide
  have t1 : ((7 : Int) == 1) = false := by decide
  have t2 : ((7 : Int) == 2) = false := by decide
  have t3 : ((7 : Int) == 3) = false := by decide
  have t4 : ((7 : Int) == 4) = false := by decide
  have t5 : ((7 : Int) == 5) = false := by decide
  have t6 : ((7 : Int) == 6) = false := by decide
  have t7 : ((7 : Int) == 7) = true := by decide
  subst hga
  have HH := Lib.hid h
  have HS := Lib.hid hS
  clear h hS
  go_enter Try.func39, Try.ntmps39
  go_wp2_with fail
  have R0 := hA0.keep (Fr.refl _ _).drew
  go_region_held3 (fun w' => w'.cell? ⟨hb, 1, none⟩ = some (.slice (some ⟨ga, 0, none⟩) n c1) ∧ w'.cell? ⟨w.heap.size, 1, none⟩ = some (.int .i64 att) ∧ w'.cell? ⟨w.heap.size, 3, none⟩ = some (.slice ad nd cd) ∧ w'.cell? ⟨ga, i, none⟩ = some (.pointer (some ⟨b, 0, none⟩)) ∧ A1 w base hb kind r o all saved bs ss (some ⟨ga, 0, none⟩) a2 c1 c2 S ad nd cd data k att pick w')
    (first | (exact R0.held HIL.out rfl HBB.out HNL.out) | (exact (R0.keep f5).held HIL.out rfl HBB.out HNL.out) | (go_keep))
    (first | (go_at_call 56; refine (place_nat att n i _ (by omega) (by omega) HIX.out).mono ?_; rintro e w4 ⟨rfl, rfl⟩) | (go_at_call 61; refine (copied_n ad nd cd data _ R0.sl (by omega)).mono ?_; rintro e w5 ⟨ao, co, rfl, O5, f5⟩))
  have R5 := R0.keep f5
  have q0 : w5.cell? ⟨w.heap.size, 0, none⟩ = some (.int .i64 k) := by rw [cell_of R5.b1]; rfl
  have OW5 : Hid (Ow w5 (w.heap.size + 1 + 1) 5 ao co data) := by
    have e5 := O5
    rw [show (((w.alloc (.cells #[.int .i64 k, .int .i64 att, .int .i64 pick, .slice ad nd cd] 26)).alloc (.cells #[.int .i64 0, .slice none 0 0, .bool false, .bool false] 31)).drew).heap.size = w.heap.size + 1 + 1 by simp [World.drew]] at e5
    exact e5
  have H5 := Lib.hid R5
  clear O5 R5 R0 hA0 f5
  go_wp2_with fail
  refine (place_nat k 10 7 _ (by decide) (by decide) HKM.out).mono ?_
  rintro e w5 ⟨rfl, rfl⟩
  clear q0
  have hs5 : Hid (HsAt w5 b 86 r o (all.getD i [])) := by have := H5.out.hi.hs i HIL.out; rw [HBB.out] at this; exact this
  have hbS : b ∈ S := by rw [← HBB.out]; exact HH.out.bsS _ (getD_mem (by rw [HH.out.bl]; exact HIL.out))
  have hbw : b < w.heap.size := HH.out.lt_of hbS
  have HBS := Lib.hid hbS
  clear hbS
  go_wp2_with fail
  refine (shaMarshal_any w5 b r o _ hrt.out hs5.out).mono ?_
  rintro e w6 ⟨asv, cs, rfl, o6, D6, f6⟩
  obtain ⟨gs, has, hgs, hcs, hcm⟩ := Ow_at0 o6 (by rw [marH_length _ _ _ hrt.out]; decide)
  rw [has] at o6 ⊢
  have O6 := Lib.hid o6
  have HD6 := Lib.hid D6
  have K6 : Hid (HI 60 56 22 86 w6 base hb kind r o all saved bs ss (some ⟨ga, 0, none⟩) c1 a2 c2 S) := by
    have := H5.out.hi.upd i HIL.out (all.getD i []) (by rw [HBB.out]; exact f6) (by rw [HBB.out]; exact .inl HD6.out)
    rw [set_getD] at this
    exact this
  have G6 : Hid (w6.heap[w.heap.size + 1]? = some (.cells #[.int .i64 0, .slice none 0 0, .bool false, .bool false] 31 (0, 0))) := f6.obj H5.out.b2 (by simp; omega)
  have F6 : Hid (Fr S w w6) := (H5.out.fr.mono (by simp)).trans (f6.mono (fun x _ hx => by simp at hx; rw [hx]; exact HBS.out))
  have hw6 : w.heap.size ≤ w6.heap.size := F6.out.size
  have hw65 : w5.heap.size ≤ w6.heap.size := f6.size
  have S6 : Hid (Sl w6 (some ⟨gs, 0, none⟩) (0 + 207) cs ([] ++ marH r o (all.getD i []))) := by
    have e := O6.out.sl_at (marH_length _ _ _ hrt.out)
    show Sl _ _ _ _ _
    rw [Nat.zero_add, List.nil_append]
    exact e
  have HGS : Hid (gs ∉ S) := fun hm => by have := HH.out.lt_of hm; have := H5.out.fr.size; omega
  clear o6 D6 has hcs hcm
  have SV : Hid (Calls Try.prog 69 #[.pointer (some ⟨hb, 0, none⟩), .slice none 0 0, .slice (some ⟨gs, 0, none⟩) 207 cs, .nilIface] w6 (SvR base hb kind r o [] all (saved ++ [all.getD i []]) S w6)) := hsave_any w6 base hb kind r o all saved bs ss _ _ _ _ S none 0 0 gs 0 cs [] (all.getD i []) K6.out rfl S6.out HGS.out (by omega) hsvl
  go_wp2_with fail
  refine SV.out.mono ?_
  rintro e w7 ⟨a7, c7, bs', ss', a1', c1', a2', c2', S', rfl, o7, k7, f7, hsub, hn7⟩
  rw [show ([] : Bs).length = 0 from rfl]
  have O7 := Lib.hid o7
  have K7 := Lib.hid k7
  have HSUB := Lib.hid hsub
  have HN7 := Lib.hid hn7
  clear o7 k7 hsub hn7
  have G7 : Hid (w7.heap[w.heap.size + 1]? = some (.cells #[.int .i64 0, .slice none 0 0, .bool false, .bool false] 31 (0, 0))) := f7.obj G6.out (fun hm => by have := HH.out.lt_of hm; omega)
  go_wp2_with (refine wpList_store_bits rfl _ _ _ rfl (w.heap.size + 1) rfl 31 #[.int .i64 0, .slice a7 0 c7, .bool true, .bool false] #[.int .i64 0, .slice none 0 0, .bool false, .bool false] rfl G7.out rfl (by intro v hv; simp at hv; rcases hv with rfl | rfl | rfl | rfl <;> rfl) sizeRT ?_; refine Hid.out ?_)
  show wpList _ _ _ _ _ _
  have G9 := Lib.hid (setRow_heap _ _ _ (#[.int .i64 0, .slice a7 0 c7, .bool true, .bool false] : Array Value) _ _ G7.out)
  have f9 : Fr [w.heap.size + 1] w7 (w7.setRow (w.heap.size + 1) #[.int .i64 0, .slice a7 0 c7, .bool true, .bool false]) := (Fr.refl _ _).setRow _ _ (.inr (by simp))
  generalize w7.setRow (w.heap.size + 1) #[.int .i64 0, .slice a7 0 c7, .bool true, .bool false] = w9 at G9 f9 ⊢
  go_wp2_with fail
  refine bodyPost_ret (v := .agg #[.int .i64 0, .slice a7 0 c7, .bool true, .bool false]) (results_cell_row rfl _ _ (w.heap.size + 1) _ _ _ _ rfl G9.out Try.underlying31 rfl sizeRT) rfl ?_
  have hb5 : w.heap.size + 1 + 1 ≤ w5.heap.size := by have := (Array.getElem?_eq_some_iff.1 H5.out.b2).1; omega
  have F9 : Fr S w w9 := Fr_trans_new (F6.out.trans f7) f9 (by simp)
  have K9 := HI_keepNew K7.out f9 (fun x hx => ⟨fun hm => by
    simp only [List.mem_cons, List.not_mem_nil, or_false] at hx
    subst hx
    rcases HSUB.out _ hm with h1 | h1
    · have := HH.out.lt_of h1
      omega
    · omega, fun j hj => by
    simp only [List.mem_cons, List.not_mem_nil, or_false] at hx
    subst hx
    exact sv_ne K7.out G7.out j hj⟩)
  have e9 : ix k 10 = 7 := by unfold ix; have := HKM.out; omega
  have O9 : Ow w9 w6.heap.size 5 a7 c7 ([]) := O7.out.keep f9 (fun x hx => by simp; omega)
  refine ⟨a7, c7, S', ?_, ?_, ?_, F9, fun x hx => (HSUB.out x hx).imp id (fun h => by omega), fun y hy hm => ?_⟩
  · simp only [stepH, e9]; rfl
  · simp only [stepH, e9]; exact O9.mono (by omega)
  · simp only [stepH, e9]; exact ⟨_, _, _, _, _, _, by rw [← HII.out]; exact K9⟩
  · exact HN7.out y hy hm

set_option maxRecDepth 100000 in
set_option maxHeartbeats 600000 in
theorem act_append (w : World) (base hb : Nat) (kind : Int) (r o : Nat) (all saved : List Bs) (bs : List Nat) (ss : List (Nat × Nat)) (a1 a2 : Option Addr) (c1 c2 : Nat) (S : List Nat) (ad : Option Addr) (nd cd : Nat) (data : Bs) (k att pick : Int) (h : HI 60 56 22 86 w base hb kind r o all saved bs ss a1 c1 a2 c2 S) (hS : Sl w ad nd cd data) (hnd : nd ≤ 140737488351232) (hall : all.length ≤ 3000000000000) (hsvl : saved.length ≤ 3000000000000) (hkm : k % 10 = ((8 : Nat) : Int)) :
    Calls Try.prog 39 #[.pointer (some ⟨hb, 0, none⟩), .agg #[.int .i64 k, .int .i64 att, .int .i64 pick, .slice ad nd cd]] w (ActR base hb kind r o (stepH r o all saved ⟨k, att, pick, data⟩) S w) := by
  have hA0 := A1.start h hS k att pick
  obtain ⟨i, hi⟩ : ∃ i, i = ix att all.length := ⟨_, rfl⟩
  have hil : i < all.length := by rw [hi]; exact ix_lt _ _ h.pos
  have HIX : Hid (att % ((all.length : Nat) : Int) = (i : Int)) := by rw [hi]; exact ix_int _ _ h.pos
  have HII := Lib.hid hi
  have HKM : Hid (k % 10 = ((8 : Nat) : Int)) := hkm
  clear hi hkm
  obtain ⟨ga, hga, hac, hacm, _⟩ := HI_row h
  obtain ⟨b, hb0⟩ : ∃ b, b = bs.getD i 0 := ⟨_, rfl⟩
  obtain ⟨n, hnl⟩ : ∃ n, n = all.length := ⟨_, rfl⟩
  have hrt := Lib.hid h.rt
  have hapos := h.pos
  have HBB : Hid (bs.getD i 0 = b) := hb0.symm
  have HNL : Hid (all.length = n) := hnl.symm
  have HGA := Lib.hid hga
  rw [← hnl] at hil hac hapos hall HIX
  have hin : (i : Int) < (n : Int) := by omega
  have HIL : Hid (i < all.length) := by show _ < _; rw [HNL.out]; exact hil
  clear hb0 hnl
  have t0 : ((8 : Int) == 0) = false := by decide
  have t1 : ((8 : Int) == 1) = false := by decide
  have t2 : ((8 : Int) == 2) = false := by decide
  have t3 : ((8 : Int) == 3) = false := by decide
  have t4 : ((8 : Int) == 4) = false := by decide
  have t5 : ((8 : Int) == 5) = false := by decide
  have t6 : ((8 : Int) == 6) = false := by decide
  have t7 : ((8 : Int) == 7) = false := by decide
  have t8 : ((8 : Int) == 8) = true := by decide
  subst hga
  have HH := Lib.hid h
  have HS := Lib.hid hS
  clear h hS
  go_enter Try.func39, Try.ntmps39
  go_wp2_with fail
  have R0 := hA0.keep (Fr.refl _ _).drew
  go_region_held3 (fun w' => w'.cell? ⟨hb, 1, none⟩ = some (.slice (some ⟨ga, 0, none⟩) n c1) ∧ w'.cell? ⟨w.heap.size, 1, none⟩ = some (.int .i64 att) ∧ w'.cell? ⟨w.heap.size, 3, none⟩ = some (.slice ad nd cd) ∧ w'.cell? ⟨ga, i, none⟩ = some (.pointer (some ⟨b, 0, none⟩)) ∧ A1 w base hb kind r o all saved bs ss (some ⟨ga, 0, none⟩) a2 c1 c2 S ad nd cd data k att pick w')
    (first | (exact R0.held HIL.out rfl HBB.out HNL.out) | (exact (R0.keep f5).held HIL.out rfl HBB.out HNL.out) | (go_keep))
    (first | (go_at_call 56; refine (place_nat att n i _ (by omega) (by omega) HIX.out).mono ?_; rintro e w4 ⟨rfl, rfl⟩) | (go_at_call 61; refine (copied_n ad nd cd data _ R0.sl (by omega)).mono ?_; rintro e w5 ⟨ao, co, rfl, O5, f5⟩))
  have R5 := R0.keep f5
  have q0 : w5.cell? ⟨w.heap.size, 0, none⟩ = some (.int .i64 k) := by rw [cell_of R5.b1]; rfl
  have OW5 : Hid (Ow w5 (w.heap.size + 1 + 1) 5 ao co data) := by
    have e5 := O5
    rw [show (((w.alloc (.cells #[.int .i64 k, .int .i64 att, .int .i64 pick, .slice ad nd cd] 26)).alloc (.cells #[.int .i64 0, .slice none 0 0, .bool false, .bool false] 31)).drew).heap.size = w.heap.size + 1 + 1 by simp [World.drew]] at e5
    exact e5
  have H5 := Lib.hid R5
  clear O5 R5 R0 hA0 f5
  go_wp2_with fail
  refine (place_nat k 10 8 _ (by decide) (by decide) HKM.out).mono ?_
  rintro e w5 ⟨rfl, rfl⟩
  clear q0
  have hs5 : Hid (HsAt w5 b 86 r o (all.getD i [])) := by have := H5.out.hi.hs i HIL.out; rw [HBB.out] at this; exact this
  have hbS : b ∈ S := by rw [← HBB.out]; exact HH.out.bsS _ (getD_mem (by rw [HH.out.bl]; exact HIL.out))
  have hbw : b < w.heap.size := HH.out.lt_of hbS
  have HBS := Lib.hid hbS
  clear hbS
  go_wp2_with fail
  have hb5 : w.heap.size + 1 + 1 ≤ w5.heap.size := by have := (Array.getElem?_eq_some_iff.1 H5.out.b2).1; omega
  refine (shaAppend_any w5 b r o _ ao nd co (w.heap.size + 1 + 1) data hrt.out hs5.out HS.out.len OW5.out hb5 (by omega) (by omega)).mono ?_
  rintro e w6 ⟨asv, cs, w6a, rfl, o6, D6, f6a, b6⟩
  have hlen : (data ++ marH r o (all.getD i [])).length = nd + 207 := by rw [List.length_append, HS.out.len, marH_length _ _ _ hrt.out]
  obtain ⟨gs, has, hgs, hcs, hcm⟩ := Ow_at0 o6 (by rw [hlen]; omega)
  rw [has] at o6 ⊢
  have O6 := Lib.hid o6
  have HD6 := Lib.hid D6
  have HLEN := Lib.hid hlen
  have K6 : Hid (HI 60 56 22 86 w6 base hb kind r o all saved bs ss (some ⟨ga, 0, none⟩) c1 a2 c2 S) := by
    have K6a := H5.out.hi.upd i HIL.out (all.getD i []) (by rw [HBB.out]; exact f6a) (by rw [HBB.out]; exact .inl HD6.out)
    rw [set_getD] at K6a
    exact HI_below K6a b6 (fun x hx => by have := HH.out.lt_of hx; omega) (fun j hj => by have := (HH.out.sv j hj).1.lt (x := ⟨(ss.getD j (0, 0)).1, 0, none⟩) rfl (by decide); simp only at this; omega)
  have G6 : Hid (w6.heap[w.heap.size + 1]? = some (.cells #[.int .i64 0, .slice none 0 0, .bool false, .bool false] 31 (0, 0))) := by
    have e1 := f6a.obj H5.out.b2 (show w.heap.size + 1 ∉ [b] by simp; omega)
    show _ = _
    rw [b6.block (w.heap.size + 1) (by omega)]
    exact e1
  have q6 : w6.cell? ⟨w.heap.size, 3, none⟩ = some (.slice ad nd cd) := by
    have e1 := f6a.obj H5.out.b1 (show w.heap.size ∉ [b] by simp; omega)
    have e2 : w6.heap[w.heap.size]? = _ := (b6.block w.heap.size (by omega)).trans e1
    rw [cell_of e2]
    rfl
  have F6 : Hid (Fr S w w6) := (((H5.out.fr.mono (by simp)).trans f6a : Fr [b] w w6a).of_belowB b6 (by omega)).mono (fun x _ hx => by simp at hx; rw [hx]; exact HBS.out)
  have hw6 : w.heap.size ≤ w6.heap.size := F6.out.size
  have hw65 : w5.heap.size ≤ w6.heap.size := Nat.le_trans f6a.size b6.size
  have S6 : Hid (Sl w6 (some ⟨gs, 0, none⟩) (nd + 207) cs (data ++ marH r o (all.getD i []))) := O6.out.sl_at HLEN.out
  have HGS : Hid (gs ∉ S) := fun hm => by have := HH.out.lt_of hm; omega
  clear o6 D6 has hcs hcm hlen
  have SV : Hid (Calls Try.prog 69 #[.pointer (some ⟨hb, 0, none⟩), .slice ad nd cd, .slice (some ⟨gs, 0, none⟩) (nd + 207) cs, .nilIface] w6 (SvR base hb kind r o data all (saved ++ [all.getD i []]) S w6)) := hsave_any w6 base hb kind r o all saved bs ss _ _ _ _ S ad nd cd gs 0 cs data (all.getD i []) K6.out HS.out.len S6.out HGS.out (by omega) hsvl
  go_wp2_with fail
  refine SV.out.mono ?_
  rintro e w7 ⟨a7, c7, bs', ss', a1', c1', a2', c2', S', rfl, o7, k7, f7, hsub, hn7⟩
  rw [HS.out.len]
  have O7 := Lib.hid o7
  have K7 := Lib.hid k7
  have HSUB := Lib.hid hsub
  have HN7 := Lib.hid hn7
  clear o7 k7 hsub hn7
  have G7 : Hid (w7.heap[w.heap.size + 1]? = some (.cells #[.int .i64 0, .slice none 0 0, .bool false, .bool false] 31 (0, 0))) := f7.obj G6.out (fun hm => by have := HH.out.lt_of hm; omega)
  go_wp2_with (refine wpList_store_bits rfl _ _ _ rfl (w.heap.size + 1) rfl 31 #[.int .i64 0, .slice a7 nd c7, .bool true, .bool false] #[.int .i64 0, .slice none 0 0, .bool false, .bool false] rfl G7.out rfl (by intro v hv; simp at hv; rcases hv with rfl | rfl | rfl | rfl <;> rfl) sizeRT ?_; refine Hid.out ?_)
  show wpList _ _ _ _ _ _
  have G9 := Lib.hid (setRow_heap _ _ _ (#[.int .i64 0, .slice a7 nd c7, .bool true, .bool false] : Array Value) _ _ G7.out)
  have f9 : Fr [w.heap.size + 1] w7 (w7.setRow (w.heap.size + 1) #[.int .i64 0, .slice a7 nd c7, .bool true, .bool false]) := (Fr.refl _ _).setRow _ _ (.inr (by simp))
  generalize w7.setRow (w.heap.size + 1) #[.int .i64 0, .slice a7 nd c7, .bool true, .bool false] = w9 at G9 f9 ⊢
  go_wp2_with fail
  refine bodyPost_ret (v := .agg #[.int .i64 0, .slice a7 nd c7, .bool true, .bool false]) (results_cell_row rfl _ _ (w.heap.size + 1) _ _ _ _ rfl G9.out Try.underlying31 rfl sizeRT) rfl ?_
  have hb5 : w.heap.size + 1 + 1 ≤ w5.heap.size := by have := (Array.getElem?_eq_some_iff.1 H5.out.b2).1; omega
  have F9 : Fr S w w9 := Fr_trans_new (F6.out.trans f7) f9 (by simp)
  have K9 := HI_keepNew K7.out f9 (fun x hx => ⟨fun hm => by
    simp only [List.mem_cons, List.not_mem_nil, or_false] at hx
    subst hx
    rcases HSUB.out _ hm with h1 | h1
    · have := HH.out.lt_of h1
      omega
    · omega, fun j hj => by
    simp only [List.mem_cons, List.not_mem_nil, or_false] at hx
    subst hx
    exact sv_ne K7.out G7.out j hj⟩)
  have e9 : ix k 10 = 8 := by unfold ix; have := HKM.out; omega
  have O9 : Ow w9 w6.heap.size 5 a7 c7 (data) := O7.out.keep f9 (fun x hx => by simp; omega)
  refine ⟨a7, c7, S', ?_, ?_, ?_, F9, fun x hx => (HSUB.out x hx).imp id (fun h => by omega), fun y hy hm => ?_⟩
  · simp only [stepH, e9]; rw [HS.out.len]
  · simp only [stepH, e9]; exact O9.mono (by omega)
  · simp only [stepH, e9]; exact ⟨_, _, _, _, _, _, by rw [← HII.out]; exact K9⟩
  · exact HN7.out y hy hm

end Go.Proofs.Ytfgfhdkedmgfiaa
end

section
namespace Go.Proofs.Ytfgfhdkedmgfiaa
open Go.ChangeShapes Go.WideShapes Go.ChangeAt Go.RowKit Go.Sha
theorem set4 {w : World} {x T : Nat} {u0 u1 u2 u3 : Value} (h : w.heap[x]? = some (.cells #[u0, u1, u2, u3] T (0, 0))) (v0 v1 v2 v3 : Value) :
    ((((w.setCell ⟨x, 0, none⟩ v0).setCell ⟨x, 1, none⟩ v1).setCell ⟨x, 2, none⟩ v2).setCell ⟨x, 3, none⟩ v3).heap[x]? = some (.cells #[v0, v1, v2, v3] T (0, 0)) ∧ Fr [x] w ((((w.setCell ⟨x, 0, none⟩ v0).setCell ⟨x, 1, none⟩ v1).setCell ⟨x, 2, none⟩ v2).setCell ⟨x, 3, none⟩ v3) := by
  refine ⟨?_, ((((Fr.refl _ _).setCell _ _ (.inr (by simp))).setCell _ _ (.inr (by simp))).setCell _ _ (.inr (by simp))).setCell _ _ (.inr (by simp))⟩
  rw [Go.Sha.heap_setCell_same (Go.Sha.heap_setCell_same (Go.Sha.heap_setCell_same (Go.Sha.heap_setCell_same h v0) v1) v2) v3]
  simp
theorem HI_srow {w : World} {base hb : Nat} {kind : Int} {r o : Nat} {all saved : List Bs} {bs : List Nat} {ss : List (Nat × Nat)} {a1 a2 : Option Addr} {c1 c2 : Nat} {S : List Nat} (h : HI 60 56 22 86 w base hb kind r o all saved bs ss a1 c1 a2 c2 S) (hp : 0 < saved.length) :
    ∃ ga, a2 = some ⟨ga, 0, none⟩ ∧ saved.length ≤ c2 ∧ c2 ≤ 9223372036854775807 ∧ ∀ i, i < saved.length → w.cell? ⟨ga, i, none⟩ = some (slv (ss.getD i (0, 0))) := by
  rcases h.rowS.2 with ⟨h2, h0⟩ | ⟨g, cap, cur, hv, hb', hg, hn, hm, hs, ht⟩
  · omega
  · simp only [Value.slice.injEq] at hv
    obtain ⟨rfl, _, rfl⟩ := hv
    refine ⟨g, rfl, hn, by unfold maxLen at hm; omega, fun i hi => ?_⟩
    have h4 : (cur.toList.take (saved.length * 1))[i]? = (ss.map slv)[i]? := by rw [ht]
    have h5 : (ss.map slv)[i]? = some (slv (ss.getD i (0, 0))) := by
      rw [List.getElem?_map, List.getD_eq_getElem?_getD, List.getElem?_eq_getElem (l := ss) (by rw [h.sl]; exact hi)]
      rfl
    rw [List.getElem?_take_of_lt (by omega), h5, Array.getElem?_toList] at h4
    simp only [World.cell?, hg]
    exact h4

set_option maxRecDepth 100000 in
set_option maxHeartbeats 600000 in
theorem act_load0 (w : World) (base hb : Nat) (kind : Int) (r o : Nat) (all saved : List Bs) (bs : List Nat) (ss : List (Nat × Nat)) (a1 a2 : Option Addr) (c1 c2 : Nat) (S : List Nat) (ad : Option Addr) (nd cd : Nat) (data : Bs) (k att pick : Int) (h : HI 60 56 22 86 w base hb kind r o all saved bs ss a1 c1 a2 c2 S) (hS : Sl w ad nd cd data) (hnd : nd ≤ 140737488351232) (hall : all.length ≤ 3000000000000) (hsv : saved.length = 0) (hkm : k % 10 = ((9 : Nat) : Int)) :
    Calls Try.prog 39 #[.pointer (some ⟨hb, 0, none⟩), .agg #[.int .i64 k, .int .i64 att, .int .i64 pick, .slice ad nd cd]] w (ActR base hb kind r o (stepH r o all saved ⟨k, att, pick, data⟩) S w) := by
  have HSV := Lib.hid hsv
  clear hsv
  have hA0 := A1.start h hS k att pick
  obtain ⟨i, hi⟩ : ∃ i, i = ix att all.length := ⟨_, rfl⟩
  have hil : i < all.length := by rw [hi]; exact ix_lt _ _ h.pos
  have HIX : Hid (att % ((all.length : Nat) : Int) = (i : Int)) := by rw [hi]; exact ix_int _ _ h.pos
  have HII := Lib.hid hi
  have HKM : Hid (k % 10 = ((9 : Nat) : Int)) := hkm
  clear hi hkm
  obtain ⟨ga, hga, hac, hacm, _⟩ := HI_row h
  obtain ⟨b, hb0⟩ : ∃ b, b = bs.getD i 0 := ⟨_, rfl⟩
  obtain ⟨n, hnl⟩ : ∃ n, n = all.length := ⟨_, rfl⟩
  have hrt := Lib.hid h.rt
  have hapos := h.pos
  have HBB : Hid (bs.getD i 0 = b) := hb0.symm
  have HNL : Hid (all.length = n) := hnl.symm
  have HGA := Lib.hid hga
  rw [← hnl] at hil hac hapos hall HIX
  have hin : (i : Int) < (n : Int) := by omega
  have HIL : Hid (i < all.length) := by show _ < _; rw [HNL.out]; exact hil
  clear hb0 hnl
  have t0 : ((9 : Int) == 0) = false := by decide
  have t1 : ((9 : Int) == 1) = false := by decide
  have t2 : ((9 : Int) == 2) = false := by decide
  have t3 : ((9 : Int) == 3) = false := by decide
  have t4 : ((9 : Int) == 4) = false := by decide
  have t5 : ((9 : Int) == 5) = false := by decide
  have t6 : ((9 : Int) == 6) = false := by decide
  have t7 : ((9 : Int) == 7) = false := by decide
  have t8 : ((9 : Int) == 8) = false := by decide
  have t9 : ((9 : Int) == 9) = true := by decide
  subst hga
  have HH := Lib.hid h
  have HS := Lib.hid hS
  clear h hS
  go_enter Try.func39, Try.ntmps39
  go_wp2_with fail
  have R0 := hA0.keep (Fr.refl _ _).drew
  go_region_held3 (fun w' => w'.cell? ⟨hb, 1, none⟩ = some (.slice (some ⟨ga, 0, none⟩) n c1) ∧ w'.cell? ⟨w.heap.size, 1, none⟩ = some (.int .i64 att) ∧ w'.cell? ⟨w.heap.size, 3, none⟩ = some (.slice ad nd cd) ∧ w'.cell? ⟨ga, i, none⟩ = some (.pointer (some ⟨b, 0, none⟩)) ∧ A1 w base hb kind r o all saved bs ss (some ⟨ga, 0, none⟩) a2 c1 c2 S ad nd cd data k att pick w')
    (first | (exact R0.held HIL.out rfl HBB.out HNL.out) | (exact (R0.keep f5).held HIL.out rfl HBB.out HNL.out) | (go_keep))
    (first | (go_at_call 56; refine (place_nat att n i _ (by omega) (by omega) HIX.out).mono ?_; rintro e w4 ⟨rfl, rfl⟩) | (go_at_call 61; refine (copied_n ad nd cd data _ R0.sl (by omega)).mono ?_; rintro e w5 ⟨ao, co, rfl, O5, f5⟩))
  have R5 := R0.keep f5
  have q0 : w5.cell? ⟨w.heap.size, 0, none⟩ = some (.int .i64 k) := by rw [cell_of R5.b1]; rfl
  have OW5 : Hid (Ow w5 (w.heap.size + 1 + 1) 5 ao co data) := by
    have e5 := O5
    rw [show (((w.alloc (.cells #[.int .i64 k, .int .i64 att, .int .i64 pick, .slice ad nd cd] 26)).alloc (.cells #[.int .i64 0, .slice none 0 0, .bool false, .bool false] 31)).drew).heap.size = w.heap.size + 1 + 1 by simp [World.drew]] at e5
    exact e5
  have H5 := Lib.hid R5
  clear O5 R5 R0 hA0 f5
  go_wp2_with fail
  refine (place_nat k 10 9 _ (by decide) (by decide) HKM.out).mono ?_
  rintro e w5 ⟨rfl, rfl⟩
  clear q0
  have hs5 : Hid (HsAt w5 b 86 r o (all.getD i [])) := by have := H5.out.hi.hs i HIL.out; rw [HBB.out] at this; exact this
  have hbS : b ∈ S := by rw [← HBB.out]; exact HH.out.bsS _ (getD_mem (by rw [HH.out.bl]; exact HIL.out))
  have hbw : b < w.heap.size := HH.out.lt_of hbS
  have HBS := Lib.hid hbS
  clear hbS
  have qs := (saved_cell H5.out.hi HSV.out).1
  have G5 := Lib.hid H5.out.b2
  go_wp2_with (refine wpList_store_bits rfl _ _ _ rfl (w.heap.size + 1) rfl 31 #[.int .i64 0, .slice none 0 0, .bool false, .bool false] #[.int .i64 0, .slice none 0 0, .bool false, .bool false] rfl G5.out rfl (by intro v hv; simp at hv; rcases hv with rfl | rfl | rfl | rfl <;> rfl) sizeRT ?_; refine Hid.out ?_)
  show wpList _ _ _ _ _ _
  have G9 := Lib.hid (setRow_heap _ _ _ (#[.int .i64 0, .slice none 0 0, .bool false, .bool false] : Array Value) _ _ G5.out)
  have f9 : Fr [w.heap.size + 1] w5 (w5.setRow (w.heap.size + 1) #[.int .i64 0, .slice none 0 0, .bool false, .bool false]) := (Fr.refl _ _).setRow _ _ (.inr (by simp))
  generalize w5.setRow (w.heap.size + 1) #[.int .i64 0, .slice none 0 0, .bool false, .bool false] = w9 at G9 f9 ⊢
  go_wp2_with fail
  refine bodyPost_ret (v := .agg #[.int .i64 0, .slice none 0 0, .bool false, .bool false]) (results_cell_row rfl _ _ (w.heap.size + 1) _ _ _ _ rfl G9.out Try.underlying31 rfl sizeRT) rfl ?_
  have F9 : Fr S w w9 := Fr_trans_new (H5.out.fr.mono (by simp) : Fr S w w5) f9 (by simp)
  have K9 := HI_keepNew H5.out.hi f9 (newOk HH.out)
  have e9 : ix k 10 = 9 := by unfold ix; have := HKM.out; omega
  refine ⟨none, 0, S, ?_, ?_, ?_, F9, fun x hx => .inl hx, fun y hy => by cases hy⟩
  · simp only [stepH, e9, HSV.out, if_true]; rfl
  · simp only [stepH, e9, HSV.out, if_true]; exact Ow.nil _ _ _
  · simp only [stepH, e9, HSV.out, if_true]; exact ⟨_, _, _, _, _, _, K9⟩


end Go.Proofs.Ytfgfhdkedmgfiaa
end
