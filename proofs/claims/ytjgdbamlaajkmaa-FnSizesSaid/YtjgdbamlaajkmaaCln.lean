/- One call of a script over hashes: a clone. No condition but on lengths. -/
import Derived.Test.YtjgdbamlaajkmaaActC
namespace Go.Proofs.Ytjgdbamlaajkmaa
open Go.ChangeShapes Go.WideShapes Go.ChangeAt Go.RowKit Go.Sha
/-- a clone behind all hashes -/
def ClR (base hb : Nat) (kind : Int) (r o : Nat) (all saved : List Bs) (S : List Nat) (w : World) (e : Ending) (w' : World) : Prop :=
  e = .returned (.agg #[.int .i64 0, .slice none 0 0, .bool true, .bool false]) ∧ ∃ bs' ss' a1' c1' a2' c2' S', HI 50 45 22 60 w' base hb kind r o all saved bs' ss' a1' c1' a2' c2' S' ∧ Fr S w w' ∧ ∀ k ∈ S', k ∈ S ∨ w.heap.size ≤ k
set_option maxRecDepth 100000 in
set_option maxHeartbeats 600000 in
theorem hclone_any (w : World) (base hb : Nat) (kind : Int) (r o : Nat) (all saved : List Bs) (bs : List Nat) (ss : List (Nat × Nat)) (a1 a2 : Option Addr) (c1 c2 : Nat) (S : List Nat) (i b : Nat) (h : HI 50 45 22 60 w base hb kind r o all saved bs ss a1 c1 a2 c2 S) (hi : i < all.length) (hbb : bs.getD i 0 = b) (hall : all.length ≤ 1099511627776) :
    Calls Try.prog 42 #[.pointer (some ⟨hb, 0, none⟩), .pointer (some ⟨b, 0, none⟩)] w (ClR base hb kind r o (all ++ [all.getD i []]) saved S w) := by
  obtain ⟨i0, hi0, hz0, hz1, hz2⟩ := info_parts infoPT
  obtain ⟨ga, hga, hac, hacm, _⟩ := HI_row h
  subst hga
  obtain ⟨n, hnl⟩ : ∃ n, n = all.length := ⟨_, rfl⟩
  have HNL : Hid (all.length = n) := hnl.symm
  rw [← hnl] at hac hall
  have HIL := Lib.hid hi
  have HBB := Lib.hid hbb
  have HH := Lib.hid h
  have hbase := (HH.out.Slt hb HH.out.hbS)
  clear hnl hi hbb h
  go_enter Try.func42, Try.ntmps42
  go_wp2_with fail
  have f1 : Fr [] w (w.alloc (.cells #[.int .i64 0, .slice none 0 0, .bool false, .bool false] 31)) := (Fr.refl _ _).alloc _
  have B1 : Hid ((w.alloc (.cells #[.int .i64 0, .slice none 0 0, .bool false, .bool false] 31)).heap[w.heap.size]? = some (.cells #[.int .i64 0, .slice none 0 0, .bool false, .bool false] 31 (0, 0))) := Go.heap_alloc_new w (.cells #[.int .i64 0, .slice none 0 0, .bool false, .bool false] 31)
  have z1 : (w.alloc (.cells #[.int .i64 0, .slice none 0 0, .bool false, .bool false] 31)).heap.size = w.heap.size + 1 := by simp
  have Z1 := Lib.hid z1
  clear z1
  have H1 := Lib.hid (HH.out.keep0 f1)
  generalize w.alloc (.cells #[.int .i64 0, .slice none 0 0, .bool false, .bool false] 31) = w1 at f1 B1 Z1 H1 ⊢
  have hs1 : HsAt w1 b 60 r o (all.getD i []) := by have := H1.out.hs i HIL.out; rw [HBB.out] at this; exact this
  refine (shaClone_any w1 b r o _ hs1).mono ?_
  rintro e w2 ⟨rfl, h2, f2⟩
  obtain ⟨g, hg⟩ : ∃ g, g = w1.heap.size := ⟨_, rfl⟩
  rw [← hg] at h2 ⊢
  have HG := Lib.hid hg
  have HS2 := Lib.hid h2
  have B2 : Hid (w2.heap[w.heap.size]? = some (.cells #[.int .i64 0, .slice none 0 0, .bool false, .bool false] 31 (0, 0))) := f2.obj B1.out (by simp)
  have H2 := Lib.hid (H1.out.keep0 f2)
  have B1' := B1
  clear hg h2 hs1 B1
  have hg2 : g < w2.heap.size := HS2.out.lt
  have hgw : w.heap.size + 1 ≤ g := by have := HG.out; have := Z1.out; omega
  go_wp2_with fail
  have q1 := (kind_cell H2.out HNL.out).2.1
  have H3 : Hid (HI 50 45 22 60 ((w2.alloc (.cells #[.pointer (some ⟨g, 0, none⟩)] 45)).drew) base hb kind r o all saved bs ss (some ⟨ga, 0, none⟩) c1 a2 c2 S) := (H2.out.keep0 ((Fr.refl _ _).alloc _)).keep0 (Fr.refl _ _).drew
  have q2 := (kind_cell H3.out HNL.out).2.1
  have S3 : Hid (Src Try.prog 1 47 (.slice (some ⟨w2.heap.size, 0, none⟩) 1 1) 1 [ptr g] ((w2.alloc (.cells #[.pointer (some ⟨g, 0, none⟩)] 45)).drew)) := Src_one (w := w2.drew) Try.underlying47 (ptr g) rfl 45
  have O3 : Hid (((w2.alloc (.cells #[.pointer (some ⟨g, 0, none⟩)] 45)).drew).ownsRow base 45 1 (.slice (some ⟨ga, 0, none⟩) n c1) n (bs.map ptr)) := by have := H3.out.rowA; rw [HNL.out] at this; exact this
  have X3 : Hid (base ≤ ((w2.alloc (.cells #[.pointer (some ⟨g, 0, none⟩)] 45)).drew).heap.size) := by show _ ≤ _; have := f2.size; have := f1.size; simp; omega
  have hta : ∀ (v : Value) (u : World), (Instr.typeAssert (.iface 45 v) 77 45 false).run Try.prog u = .ok v u := fun v u => by kernel_rfl
  go_region_law ((refine step_append_srcN _ rfl _ _ 47 47 rfl base 45 i0 (.pointer none) 1 8 Try.underlying47 hi0 hz0 hz1 hz2 rfl (some ⟨ga, 0, none⟩) n c1 (bs.map ptr) rfl O3.out _ 1 [ptr g] rfl S3.out (by unfold maxLen; omega) (by omega) X3.out ?_; intro a7 c7 w7 ho hg ha; have q8 := grown_blk H3.out HNL.out hg))
  all_goals
    have P7 := HI.push H1.out (wB := (w2.alloc (.cells #[.pointer (some ⟨g, 0, none⟩)] 45)).drew) (wC := w7) (g := g) (c1' := c7) (a1' := a7) (data := all.getD i []) (f2.trans (((Fr.refl _ _).alloc _).drew)) (HS2.out.keep (((Fr.refl [] _).alloc _).drew) (by simp)) (by have := HG.out; omega) (by have := f1.size; omega) (by rw [HNL.out]; exact ho) (by rw [HNL.out]; exact hg) ha
    rw [HNL.out] at P7
    have HP7 := Lib.hid P7
    have hsub := push_sub (w5 := w) (wB := (w2.alloc (.cells #[.pointer (some ⟨g, 0, none⟩)] 45)).drew) (g := g) (N := w.heap.size + 1) ha H2.out.a1S hgw (by have := f2.size; have := Z1.out; simp; omega)
    have HSUB := Lib.hid hsub
    clear P7 ho hg q1 q2 q8 hsub O3 S3 X3
    generalize w7.setCell ⟨hb, 1, none⟩ (.slice a7 (n + 1) c7) = w8 at HP7 ⊢
    have f18 : Fr S w1 w8 := HP7.out.2
    have B8 : Hid (w8.heap[w.heap.size]? = some (.cells #[.int .i64 0, .slice none 0 0, .bool false, .bool false] 31 (0, 0))) := f18.obj B1'.out (fun hm => by have := HH.out.lt_of hm; omega)
    go_wp2_with (refine wpList_store_bits rfl _ _ _ rfl (w.heap.size) rfl 31 #[.int .i64 0, .slice none 0 0, .bool true, .bool false] #[.int .i64 0, .slice none 0 0, .bool false, .bool false] rfl B8.out rfl (by intro v hv; simp at hv; rcases hv with rfl | rfl | rfl | rfl <;> rfl) sizeRT ?_; refine Hid.out ?_)
    show wpList _ _ _ _ _ _
    have G9 := Lib.hid (setRow_heap _ _ _ (#[.int .i64 0, .slice none 0 0, .bool true, .bool false] : Array Value) _ _ B8.out)
    have f9 : Fr [w.heap.size] w8 (w8.setRow (w.heap.size) #[.int .i64 0, .slice none 0 0, .bool true, .bool false]) := (Fr.refl _ _).setRow _ _ (.inr (by simp))
    generalize w8.setRow (w.heap.size) #[.int .i64 0, .slice none 0 0, .bool true, .bool false] = w9 at G9 f9 ⊢
    go_wp2_with fail
    refine bodyPost_ret (v := .agg #[.int .i64 0, .slice none 0 0, .bool true, .bool false]) (results_cell_row rfl _ _ (w.heap.size) _ _ _ _ rfl G9.out Try.underlying31 rfl sizeRT) rfl ?_
    have F9 : Fr S w w9 := Fr_trans_new ((f1.mono (by simp)).trans f18 : Fr S w w8) f9 (by simp)
    have K9 := HI_keepNew HP7.out.1 f9 (fun x hx => ⟨fun hm => by
      simp only [List.mem_cons, List.not_mem_nil, or_false] at hx
      subst hx
      rcases HSUB.out _ hm with h1 | h1
      · have := HH.out.lt_of h1
        omega
      · omega, fun j hj e => by
      simp only [List.mem_cons, List.not_mem_nil, or_false] at hx
      have := (HH.out.sv j hj).1.lt (x := ⟨(ss.getD j (0, 0)).1, 0, none⟩) rfl (by decide)
      simp only at this
      omega⟩)
    exact ⟨rfl, _, _, _, _, _, _, _, K9, F9, fun x hx => (HSUB.out x hx).imp id (fun h => by omega)⟩

end Go.Proofs.Ytjgdbamlaajkmaa
