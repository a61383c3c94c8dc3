/- How the state of a script over hashes grows: a new hash, a saved state. No condition. -/
import Derived.Test.YtjgdbamlaajkmaaHi
namespace Go.Sha
open Go.RowKit
def blkOf (a : Option Addr) : List Nat := match a with | some x => [x.block] | none => []
theorem mem_blkOf {a : Option Addr} {k : Nat} : k ∈ blkOf a ↔ ∃ x, a = some x ∧ x.block = k := by
  cases a with
  | none => simp [blkOf]
  | some x => simp [blkOf, eq_comm]
theorem ownBlock_blkOf (a : Option Addr) (n c : Nat) : (Value.slice a n c).ownBlock.toList = blkOf a := by cases a <;> rfl
section
variable {HT PT SU ST : Nat} {w w' : World} {base hb : Nat} {kind : Int} {r o : Nat} {all saved : List Bs} {bs : List Nat} {ss : List (Nat × Nat)} {a1 a2 : Option Addr} {c1 c2 : Nat} {S : List Nat}
theorem getD_append_lt {α : Type} (l m : List α) (i : Nat) (d : α) (h : i < l.length) : (l ++ m).getD i d = l.getD i d := by
  simp [List.getD_eq_getElem?_getD, List.getElem?_append_left h]
theorem getD_append_eq {α : Type} (l : List α) (x d : α) : (l ++ [x]).getD l.length d = x := by
  simp [List.getD_eq_getElem?_getD]
theorem HI.lt_of (h : HI HT PT SU ST w base hb kind r o all saved bs ss a1 c1 a2 c2 S) {k : Nat} (hk : k ∈ S) : k < w.heap.size := (h.Slt k hk).2
theorem HI.push (h : HI HT PT SU ST w base hb kind r o all saved bs ss a1 c1 a2 c2 S) {wB wC : World} {g c1' : Nat} {a1' : Option Addr} {data : Bs} (hf : Fr [] w wB) (hH : HsAt wB g ST r o data) (hg : w.heap.size ≤ g) (hbase : base ≤ w.heap.size)
    (ho : wC.ownsRow base PT 1 (.slice a1' (all.length + 1) c1') (all.length + 1) (bs.map ptr ++ [ptr g])) (hgr : wB.grownBy wC (Value.slice a1 all.length c1).ownBlock) (ha : a1' = a1 ∨ a1' = some ⟨wB.heap.size, 0, none⟩) :
    HI HT PT SU ST (wC.setCell ⟨hb, 1, none⟩ (.slice a1' (all.length + 1) c1')) base hb kind r o (all ++ [data]) saved (bs ++ [g]) ss a1' c1' a2 c2 (g :: (blkOf a1' ++ S)) ∧ Fr S w (wC.setCell ⟨hb, 1, none⟩ (.slice a1' (all.length + 1) c1')) := by
  have hbl := h.lt_of h.hbS
  have hgl := hH.lt
  have hsz := hf.size
  have fBC : Fr (blkOf a1) wB wC := by
    rw [← ownBlock_blkOf a1 all.length c1]
    exact (Fr.refl _ _).grown hgr (fun k hk => by rw [hk]; exact .inr (by simp))
  have fCD : Fr [hb] wC (wC.setCell ⟨hb, 1, none⟩ (.slice a1' (all.length + 1) c1')) := (Fr.refl _ _).setCell _ _ (.inr (by simp))
  have hne1 : ∀ x, a1' = some x → x.block ≠ hb ∧ x.block ∉ bs ∧ x.block ≠ g ∧ (∀ y, a2 = some y → x.block ≠ y.block) := fun x hx => by
    rcases ha with rfl | rfl
    · refine ⟨(h.a1bs x hx).1, (h.a1bs x hx).2, ?_, fun y hy => h.a12 x y hx hy⟩
      have := h.lt_of (h.a1S x hx)
      omega
    · simp only [Option.some.injEq] at hx
      subst hx
      refine ⟨by simp only; omega, fun hm => ?_, by simp only; omega, fun y hy => ?_⟩
      · have := h.lt_of (h.bsS _ hm)
        simp only at this
        omega
      · have := h.lt_of (h.a2S y hy)
        simp only
        omega
  have hblkC : wC.heap[hb]? = some (.cells #[.int .i64 kind, .slice a1 all.length c1, .slice a2 saved.length c2] HT (0, 0)) := by
    refine fBC.obj (hf.obj h.blk (by simp)) (fun hm => ?_)
    obtain ⟨x, hx, e⟩ := mem_blkOf.1 hm
    exact (h.a1bs x hx).1 e
  have hfar : ∀ k, k < wB.heap.size → k ∉ blkOf a1 → k ≠ hb → (wC.setCell ⟨hb, 1, none⟩ (.slice a1' (all.length + 1) c1')).heap[k]? = wB.heap[k]? := fun k hk h1 h2 => by
    rw [fCD.block k (Nat.lt_of_lt_of_le hk fBC.size) (by simpa using h2), fBC.block k hk h1]
  have fBD : Fr (hb :: blkOf a1) wB (wC.setCell ⟨hb, 1, none⟩ (.slice a1' (all.length + 1) c1')) :=
    ⟨fCD.os.trans fBC.os, fCD.tape.trans fBC.tape, fCD.output.trans fBC.output, Nat.le_trans fBC.size fCD.size, fun k hk hs => hfar k hk (fun x => hs (by simp [x])) (fun x => hs (by simp [x]))⟩
  have hbsa : ∀ b ∈ bs, b ∉ hb :: blkOf a1 := fun b hb' hm => by
    rcases List.mem_cons.1 hm with e | hm
    · exact h.hbbs (e ▸ hb')
    · obtain ⟨x, hx, e⟩ := mem_blkOf.1 hm
      exact (h.a1bs x hx).2 (e ▸ hb')
  have hga : g ∉ hb :: blkOf a1 := fun hm => by
    rcases List.mem_cons.1 hm with e | hm
    · omega
    · obtain ⟨x, hx, e⟩ := mem_blkOf.1 hm
      have := h.lt_of (h.a1S x hx)
      omega
  refine ⟨⟨?_, ?_, ?_, ?_, ?_, h.sl, ?_, ?_, ?_, ?_, ?_, ?_, ?_, ?_, ?_, ?_, ?_, ?_, h.rt⟩, ?_⟩
  · rw [Go.Sha.heap_setCell_same hblkC]
    simp
  · simp [h.bl]
  · rw [show (all ++ [data]).length = all.length + 1 by simp, List.map_append]
    refine ownsRow_keep ho fCD (fun k hk => ?_)
    obtain ⟨x, hx, rfl⟩ := ownBlock_some hk
    simpa using (hne1 x hx).1
  · intro i hi
    simp only [List.length_append, List.length_cons, List.length_nil] at hi
    by_cases e : i < all.length
    · rw [getD_append_lt _ _ _ _ e, getD_append_lt _ _ _ _ (by rw [h.bl]; exact e)]
      exact ((h.hs i e).keep hf (by simp)).keep fBD (hbsa _ (getD_mem (by rw [h.bl]; exact e)))
    · obtain rfl : i = all.length := by omega
      rw [getD_append_eq]
      have : (bs ++ [g]).getD all.length 0 = g := by rw [← h.bl]; exact getD_append_eq bs g 0
      rw [this]
      exact hH.keep fBD hga
  · rw [List.nodup_append]
    refine ⟨h.nodup, by simp, fun a ha' b hb' => ?_⟩
    simp only [List.mem_cons, List.not_mem_nil, or_false] at hb'
    subst hb'
    have := h.lt_of (h.bsS a ha')
    omega
  · refine ownsRow_keep (ownsRow_keep h.rowS hf (by simp)) fBD (fun k hk => ?_)
    obtain ⟨x, hx, rfl⟩ := ownBlock_some hk
    intro hm
    rcases List.mem_cons.1 hm with e | hm
    · exact (h.a2bs x hx).1 e
    · obtain ⟨y, hy, e⟩ := mem_blkOf.1 hm
      exact h.a12 y x hy hx e
  · intro i hi
    have hs := h.sv i hi
    have hlt := hs.1.lt (x := ⟨(ss.getD i (0, 0)).1, 0, none⟩) rfl (by decide)
    simp only at hlt
    refine ⟨(hs.1.keep0 hf).keep fBD (fun x hx _ hm => ?_), fun hm => ?_⟩
    · simp only [Option.some.injEq] at hx
      subst hx
      rcases List.mem_cons.1 hm with e | hm
      · simp only at e
        exact hs.2 (e ▸ h.hbS)
      · obtain ⟨y, hy, e⟩ := mem_blkOf.1 hm
        simp only at e
        exact hs.2 (e ▸ h.a1S y hy)
    · rcases List.mem_cons.1 hm with e | hm
      · omega
      · rcases List.mem_append.1 hm with hm | hm
        · obtain ⟨y, hy, e⟩ := mem_blkOf.1 hm
          rcases ha with rfl | rfl
          · exact hs.2 (e ▸ h.a1S y hy)
          · simp only [Option.some.injEq] at hy
            subst hy
            simp only at e
            omega
        · exact hs.2 hm
  · simp [h.hbS]
  · intro b hb'
    rcases List.mem_append.1 hb' with hb' | hb'
    · simp [h.bsS b hb']
    · simp only [List.mem_cons, List.not_mem_nil, or_false] at hb'
      simp [hb']
  · intro x hx
    have : x.block ∈ blkOf a1' := mem_blkOf.2 ⟨x, hx, rfl⟩
    simp [this]
  · intro x hx
    simp [h.a2S x hx]
  · simp only [List.mem_append, List.mem_cons, List.not_mem_nil, or_false, not_or]
    exact ⟨h.hbbs, by omega⟩
  · intro x hx
    refine ⟨(hne1 x hx).1, ?_⟩
    simp only [List.mem_append, List.mem_cons, List.not_mem_nil, or_false, not_or]
    exact ⟨(hne1 x hx).2.1, (hne1 x hx).2.2.1⟩
  · intro x hx
    refine ⟨(h.a2bs x hx).1, ?_⟩
    simp only [List.mem_append, List.mem_cons, List.not_mem_nil, or_false, not_or]
    refine ⟨(h.a2bs x hx).2, ?_⟩
    have := h.lt_of (h.a2S x hx)
    omega
  · exact fun x y hx hy => (hne1 x hx).2.2.2 y hy
  · intro k hk
    rcases List.mem_cons.1 hk with e | hk
    · subst e
      exact ⟨by omega, Nat.lt_of_lt_of_le hgl fBD.size⟩
    · rcases List.mem_append.1 hk with hk | hk
      · obtain ⟨x, hx, rfl⟩ := mem_blkOf.1 hk
        have := ownsRow_lt ho (show (Value.slice a1' (all.length + 1) c1').ownBlock = some x.block by rw [hx]; rfl)
        exact ⟨this.1, Nat.lt_of_lt_of_le this.2 fCD.size⟩
      · exact ⟨(h.Slt k hk).1, Nat.lt_of_lt_of_le (h.Slt k hk).2 (Nat.le_trans hsz fBD.size)⟩
  · simp
  · refine (hf.mono (T := S) (by simp)).trans (fBD.mono (fun k _ hk => ?_))
    rcases List.mem_cons.1 hk with e | hk
    · exact e ▸ h.hbS
    · obtain ⟨x, hx, e⟩ := mem_blkOf.1 hk
      exact e ▸ h.a1S x hx
theorem HI.addSaved (h : HI HT PT SU ST w base hb kind r o all saved bs ss a1 c1 a2 c2 S) {wB wC : World} {g c c2' : Nat} {a2' : Option Addr} {data : Bs} (hf : Fr [] w wB) (hH : Sl wB (some ⟨g, 0, none⟩) 207 c (marH r o data)) (hg : w.heap.size ≤ g)
    (ho : wC.ownsRow base SU 1 (.slice a2' (saved.length + 1) c2') (saved.length + 1) (ss.map slv ++ [slv (g, c)])) (hgr : wB.grownBy wC (Value.slice a2 saved.length c2).ownBlock) (ha : a2' = a2 ∨ a2' = some ⟨wB.heap.size, 0, none⟩) :
    HI HT PT SU ST (wC.setCell ⟨hb, 2, none⟩ (.slice a2' (saved.length + 1) c2')) base hb kind r o all (saved ++ [data]) bs (ss ++ [(g, c)]) a1 c1 a2' c2' (blkOf a2' ++ S) ∧ Fr S w (wC.setCell ⟨hb, 2, none⟩ (.slice a2' (saved.length + 1) c2')) := by
  have hbl := h.lt_of h.hbS
  have hgl : g < wB.heap.size := hH.lt (x := ⟨g, 0, none⟩) rfl (by decide)
  have hsz := hf.size
  have fBC : Fr (blkOf a2) wB wC := by
    rw [← ownBlock_blkOf a2 saved.length c2]
    exact (Fr.refl _ _).grown hgr (fun k hk => by rw [hk]; exact .inr (by simp))
  have fCD : Fr [hb] wC (wC.setCell ⟨hb, 2, none⟩ (.slice a2' (saved.length + 1) c2')) := (Fr.refl _ _).setCell _ _ (.inr (by simp))
  have hne1 : ∀ x, a2' = some x → x.block ≠ hb ∧ x.block ∉ bs ∧ x.block ≠ g ∧ (∀ y, a1 = some y → y.block ≠ x.block) := fun x hx => by
    rcases ha with rfl | rfl
    · refine ⟨(h.a2bs x hx).1, (h.a2bs x hx).2, ?_, fun y hy => h.a12 y x hy hx⟩
      have := h.lt_of (h.a2S x hx)
      omega
    · simp only [Option.some.injEq] at hx
      subst hx
      refine ⟨by simp only; omega, fun hm => ?_, by simp only; omega, fun y hy => ?_⟩
      · have := h.lt_of (h.bsS _ hm)
        simp only at this
        omega
      · have := h.lt_of (h.a1S y hy)
        simp only
        omega
  have hblkC : wC.heap[hb]? = some (.cells #[.int .i64 kind, .slice a1 all.length c1, .slice a2 saved.length c2] HT (0, 0)) := by
    refine fBC.obj (hf.obj h.blk (by simp)) (fun hm => ?_)
    obtain ⟨x, hx, e⟩ := mem_blkOf.1 hm
    exact (h.a2bs x hx).1 e
  have fBD : Fr (hb :: blkOf a2) wB (wC.setCell ⟨hb, 2, none⟩ (.slice a2' (saved.length + 1) c2')) :=
    ⟨fCD.os.trans fBC.os, fCD.tape.trans fBC.tape, fCD.output.trans fBC.output, Nat.le_trans fBC.size fCD.size, fun k hk hs => by
      rw [fCD.block k (Nat.lt_of_lt_of_le hk fBC.size) (fun x => hs (by simp at x; simp [x])), fBC.block k hk (fun x => hs (by simp [x]))]⟩
  have hbsa : ∀ b ∈ bs, b ∉ hb :: blkOf a2 := fun b hb' hm => by
    rcases List.mem_cons.1 hm with e | hm
    · exact h.hbbs (e ▸ hb')
    · obtain ⟨x, hx, e⟩ := mem_blkOf.1 hm
      exact (h.a2bs x hx).2 (e ▸ hb')
  have hga : g ∉ hb :: blkOf a2 := fun hm => by
    rcases List.mem_cons.1 hm with e | hm
    · omega
    · obtain ⟨x, hx, e⟩ := mem_blkOf.1 hm
      have := h.lt_of (h.a2S x hx)
      omega
  refine ⟨⟨?_, h.bl, ?_, ?_, h.nodup, ?_, ?_, ?_, ?_, ?_, ?_, ?_, h.hbbs, h.a1bs, ?_, ?_, ?_, h.pos, h.rt⟩, ?_⟩
  · rw [Go.Sha.heap_setCell_same hblkC]
    simp
  · refine ownsRow_keep (ownsRow_keep h.rowA hf (by simp)) fBD (fun k hk => ?_)
    obtain ⟨x, hx, rfl⟩ := ownBlock_some hk
    intro hm
    rcases List.mem_cons.1 hm with e | hm
    · exact (h.a1bs x hx).1 e
    · obtain ⟨y, hy, e⟩ := mem_blkOf.1 hm
      exact h.a12 x y hx hy e.symm
  · exact fun i hi => ((h.hs i hi).keep hf (by simp)).keep fBD (hbsa _ (getD_mem (by rw [h.bl]; exact hi)))
  · simp [h.sl]
  · rw [show (saved ++ [data]).length = saved.length + 1 by simp, List.map_append]
    refine ownsRow_keep ho fCD (fun k hk => ?_)
    obtain ⟨x, hx, rfl⟩ := ownBlock_some hk
    simpa using (hne1 x hx).1
  · intro i hi
    simp only [List.length_append, List.length_cons, List.length_nil] at hi
    by_cases e : i < saved.length
    · rw [getD_append_lt _ _ _ _ e, getD_append_lt _ _ _ _ (by rw [h.sl]; exact e)]
      have hs := h.sv i e
      have hlt := hs.1.lt (x := ⟨(ss.getD i (0, 0)).1, 0, none⟩) rfl (by decide)
      simp only at hlt
      refine ⟨(hs.1.keep0 hf).keep fBD (fun x hx _ hm => ?_), fun hm => ?_⟩
      · simp only [Option.some.injEq] at hx
        subst hx
        rcases List.mem_cons.1 hm with e | hm
        · simp only at e
          exact hs.2 (e ▸ h.hbS)
        · obtain ⟨y, hy, e⟩ := mem_blkOf.1 hm
          simp only at e
          exact hs.2 (e ▸ h.a2S y hy)
      · rcases List.mem_append.1 hm with hm | hm
        · obtain ⟨y, hy, e⟩ := mem_blkOf.1 hm
          rcases ha with rfl | rfl
          · exact hs.2 (e ▸ h.a2S y hy)
          · simp only [Option.some.injEq] at hy
            subst hy
            simp only at e
            omega
        · exact hs.2 hm
    · obtain rfl : i = saved.length := by omega
      have e2 : (ss ++ [(g, c)]).getD saved.length (0, 0) = (g, c) := by rw [← h.sl]; exact getD_append_eq ss (g, c) (0, 0)
      rw [getD_append_eq, e2]
      refine ⟨hH.keep fBD (fun x hx _ hm => ?_), fun hm => ?_⟩
      · simp only [Option.some.injEq] at hx
        subst hx
        exact hga hm
      · rcases List.mem_append.1 hm with hm | hm
        · obtain ⟨y, hy, e⟩ := mem_blkOf.1 hm
          exact (hne1 y hy).2.2.1 e
        · have := h.lt_of hm
          simp only at this
          omega
  · simp [h.hbS]
  · intro b hb'
    simp [h.bsS b hb']
  · intro x hx
    simp [h.a1S x hx]
  · intro x hx
    have : x.block ∈ blkOf a2' := mem_blkOf.2 ⟨x, hx, rfl⟩
    simp [this]
  · exact fun x hx => ⟨(hne1 x hx).1, (hne1 x hx).2.1⟩
  · exact fun x y hx hy => (hne1 y hy).2.2.2 x hx
  · intro k hk
    rcases List.mem_append.1 hk with hk | hk
    · obtain ⟨x, hx, rfl⟩ := mem_blkOf.1 hk
      have := ownsRow_lt ho (show (Value.slice a2' (saved.length + 1) c2').ownBlock = some x.block by rw [hx]; rfl)
      exact ⟨this.1, Nat.lt_of_lt_of_le this.2 fCD.size⟩
    · exact ⟨(h.Slt k hk).1, Nat.lt_of_lt_of_le (h.Slt k hk).2 (Nat.le_trans hsz fBD.size)⟩
  · refine (hf.mono (T := S) (by simp)).trans (fBD.mono (fun k _ hk => ?_))
    rcases List.mem_cons.1 hk with e | hk
    · exact e ▸ h.hbS
    · obtain ⟨x, hx, e⟩ := mem_blkOf.1 hk
      exact e ▸ h.a2S x hx
end
end Go.Sha
