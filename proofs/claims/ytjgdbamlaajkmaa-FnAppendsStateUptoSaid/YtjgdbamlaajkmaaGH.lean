/- Contracts and lemmas, merged: Hi, HiB, Nh, Act. Their conditions stand in each. -/
import Derived.Test.YtjgdbamlaajkmaaGA
import Derived.Test.YtjgdbamlaajkmaaGB
import Derived.Test.YtjgdbamlaajkmaaGC
import Derived.Test.YtjgdbamlaajkmaaGG
import Derived.Deep.RegionHeld3
import Derived.Deep.RegionLaw
section
namespace Go.Sha
open Go.RowKit
/-- a row of one's own stays while other blocks turn -/
theorem ownsRow_keep {S : List Nat} {w w' : World} {base e sz n : Nat} {v : Value} {xs : List Value} (h : w.ownsRow base e sz v n xs) (hf : Fr S w w') (hs : ∀ k, v.ownBlock = some k → k ∉ S) : w'.ownsRow base e sz v n xs := by
  obtain ⟨h1, h2⟩ := h
  refine ⟨h1, ?_⟩
  rcases h2 with h2 | ⟨g, cap, cur, hv, hg, hh, r⟩
  · exact .inl h2
  · exact .inr ⟨g, cap, cur, hv, hg, hf.obj hh (hs g (by rw [hv]; rfl)), r⟩
theorem ownsRow_mono {w : World} {base base' e sz n : Nat} {v : Value} {xs : List Value} (h : w.ownsRow base e sz v n xs) (hb : base' ≤ base) : w.ownsRow base' e sz v n xs := by
  obtain ⟨h1, h2⟩ := h
  refine ⟨h1, ?_⟩
  rcases h2 with h2 | ⟨g, cap, cur, hv, hg, hh, r⟩
  · exact .inl h2
  · exact .inr ⟨g, cap, cur, hv, Nat.le_trans hb hg, hh, r⟩
theorem ownsRow_lt {w : World} {base e sz n k : Nat} {v : Value} {xs : List Value} (h : w.ownsRow base e sz v n xs) (hk : v.ownBlock = some k) : base ≤ k ∧ k < w.heap.size := by
  rcases h.2 with ⟨h2, _⟩ | ⟨g, cap, cur, hv, hg, hh, r⟩
  · rw [h2] at hk; simp [Value.ownBlock] at hk
  · rw [hv] at hk
    have e : k = g := by simp [Value.ownBlock] at hk; exact hk.symm
    subst e
    exact ⟨hg, (Array.getElem?_eq_some_iff.1 hh).1⟩
def ptr (b : Nat) : Value := .pointer (some ⟨b, 0, none⟩)
def slv (x : Nat × Nat) : Value := .slice (some ⟨x.1, 0, none⟩) 207 x.2
/-- the state of a script: h lies in block hb, its hashes in the blocks bs, the saved states in ss; S: the blocks that a call may write -/
structure HI (HT PT SU ST : Nat) (w : World) (base hb : Nat) (kind : Int) (r o : Nat) (all : List Bs) (saved : List Bs) (bs : List Nat) (ss : List (Nat × Nat)) (a1 : Option Addr) (c1 : Nat) (a2 : Option Addr) (c2 : Nat) (S : List Nat) : Prop where
  blk : w.heap[hb]? = some (.cells #[.int .i64 kind, .slice a1 all.length c1, .slice a2 saved.length c2] HT (0, 0))
  bl : bs.length = all.length
  rowA : w.ownsRow base PT 1 (.slice a1 all.length c1) all.length (bs.map ptr)
  hs : ∀ i, i < all.length → HsAt w (bs.getD i 0) ST r o (all.getD i [])
  nodup : bs.Nodup
  sl : ss.length = saved.length
  rowS : w.ownsRow base SU 1 (.slice a2 saved.length c2) saved.length (ss.map slv)
  sv : ∀ i, i < saved.length → Sl w (some ⟨(ss.getD i (0, 0)).1, 0, none⟩) 207 (ss.getD i (0, 0)).2 (marH r o (saved.getD i [])) ∧ (ss.getD i (0, 0)).1 ∉ S
  hbS : hb ∈ S
  bsS : ∀ b ∈ bs, b ∈ S
  a1S : ∀ x, a1 = some x → x.block ∈ S
  a2S : ∀ x, a2 = some x → x.block ∈ S
  hbbs : hb ∉ bs
  a1bs : ∀ x, a1 = some x → x.block ≠ hb ∧ x.block ∉ bs
  a2bs : ∀ x, a2 = some x → x.block ≠ hb ∧ x.block ∉ bs
  a12 : ∀ x y, a1 = some x → a2 = some y → x.block ≠ y.block
  Slt : ∀ k ∈ S, base ≤ k ∧ k < w.heap.size
  pos : 0 < all.length
  rt : Rt r o
section
variable {HT PT SU ST : Nat} {w w' : World} {base hb : Nat} {kind : Int} {r o : Nat} {all saved : List Bs} {bs : List Nat} {ss : List (Nat × Nat)} {a1 a2 : Option Addr} {c1 c2 : Nat} {S : List Nat}
theorem ownBlock_some {a : Option Addr} {n c k : Nat} (h : (Value.slice a n c).ownBlock = some k) : ∃ x, a = some x ∧ x.block = k := by
  cases a with
  | none => simp [Value.ownBlock] at h
  | some x => exact ⟨x, rfl, by simpa [Value.ownBlock] using h⟩
/-- blocks outside turn -/
theorem HI.keep0 (h : HI HT PT SU ST w base hb kind r o all saved bs ss a1 c1 a2 c2 S) (hf : Fr [] w w') : HI HT PT SU ST w' base hb kind r o all saved bs ss a1 c1 a2 c2 S :=
  ⟨hf.obj h.blk (by simp), h.bl, ownsRow_keep h.rowA hf (by simp), fun i hi => (h.hs i hi).keep hf (by simp), h.nodup, h.sl, ownsRow_keep h.rowS hf (by simp), fun i hi => ⟨(h.sv i hi).1.keep0 hf, (h.sv i hi).2⟩, h.hbS, h.bsS, h.a1S, h.a2S, h.hbbs, h.a1bs, h.a2bs, h.a12, fun k hk => ⟨(h.Slt k hk).1, Nat.lt_of_lt_of_le (h.Slt k hk).2 hf.size⟩, h.pos, h.rt⟩
theorem getD_set {α : Type} (l : List α) (i j : Nat) (v d : α) (hi : i < l.length) : (l.set i v).getD j d = if j = i then v else l.getD j d := by
  simp only [List.getD_eq_getElem?_getD, List.getElem?_set]
  by_cases h : i = j
  · subst h; simp [hi]
  · rw [if_neg h, if_neg (fun e => h e.symm)]
theorem nodup_getD {bs : List Nat} (h : bs.Nodup) {i j : Nat} (hi : i < bs.length) (hj : j < bs.length) (hne : i ≠ j) : bs.getD i 0 ≠ bs.getD j 0 := by
  simp only [List.getD_eq_getElem?_getD, List.getElem?_eq_getElem hi, List.getElem?_eq_getElem hj, Option.getD_some]
  rcases Nat.lt_or_gt_of_ne hne with h1 | h1
  · exact List.pairwise_iff_getElem.1 h i j hi hj h1
  · exact fun e => List.pairwise_iff_getElem.1 h j i hj hi h1 e.symm
theorem getD_mem {bs : List Nat} {i : Nat} (hi : i < bs.length) : bs.getD i 0 ∈ bs := by
  simp only [List.getD_eq_getElem?_getD, List.getElem?_eq_getElem hi, Option.getD_some]
  exact List.getElem_mem hi
/-- one hash turns -/
theorem HI.upd (h : HI HT PT SU ST w base hb kind r o all saved bs ss a1 c1 a2 c2 S) (i : Nat) (hi : i < all.length) (data : Bs) (hf : Fr [bs.getD i 0] w w') (hd : HsAt w' (bs.getD i 0) ST r o data) :
    HI HT PT SU ST w' base hb kind r o (all.set i data) saved bs ss a1 c1 a2 c2 S := by
  have hm := getD_mem (bs := bs) (i := i) (by rw [h.bl]; exact hi)
  have hl : (all.set i data).length = all.length := by simp
  refine ⟨?_, by rw [hl]; exact h.bl, ?_, ?_, h.nodup, h.sl, ?_, ?_, h.hbS, h.bsS, h.a1S, h.a2S, h.hbbs, h.a1bs, h.a2bs, h.a12, fun k hk => ⟨(h.Slt k hk).1, Nat.lt_of_lt_of_le (h.Slt k hk).2 hf.size⟩, by rw [hl]; exact h.pos, h.rt⟩
  · rw [hl]
    exact hf.obj h.blk (by simp; intro e; exact h.hbbs (e ▸ hm))
  · rw [hl]
    refine ownsRow_keep h.rowA hf (fun k hk => ?_)
    obtain ⟨x, hx, rfl⟩ := ownBlock_some hk
    simp
    intro e
    exact (h.a1bs x hx).2 (e ▸ hm)
  · intro j hj
    rw [hl] at hj
    rw [getD_set _ _ _ _ _ hi]
    by_cases e : j = i
    · subst e; rw [if_pos rfl]; exact hd
    · rw [if_neg e]
      exact (h.hs j hj).keep hf (by simp; exact nodup_getD h.nodup (by rw [h.bl]; exact hj) (by rw [h.bl]; exact hi) e)
  · refine ownsRow_keep h.rowS hf (fun k hk => ?_)
    obtain ⟨x, hx, rfl⟩ := ownBlock_some hk
    simp
    intro e
    exact (h.a2bs x hx).2 (e ▸ hm)
  · intro j hj
    refine ⟨(h.sv j hj).1.keep hf (fun x hx _ => ?_), (h.sv j hj).2⟩
    simp only [Option.some.injEq] at hx
    subst hx
    simp
    intro e
    exact (h.sv j hj).2 (e ▸ h.bsS _ hm)
end
end Go.Sha
end

section
namespace Go.Sha
open Go.RowKit
def blkOf (a : Option Addr) : List Nat := match a with | some x => [x.block] | none => []
theorem mem_blkOf {a : Option Addr} {k : Nat} : k ∈ blkOf a ↔ ∃ x, a = some x ∧ x.block = k := by
  cases a with
  | none => simp [blkOf]
  | some x => simp [blkOf, eq_comm]
theorem ownBlock_blkOf (a : Option Addr) (n c : Nat) : (Value.slice a n c).ownBlock.toList = blkOf a := by cases a <;> rfl
section
variable {HT PT SU ST : Nat} {w w' : World} {base hb : Nat} {kind : Int} {r o : Nat} {all saved : List Bs} {bs : List Nat} {ss : List (Nat × Nat)} {a1 a2 : Option Addr} {c1 c2 : Nat} {S : List Nat}
theorem getD_append_lt {α : Type} (l m : List α) (i : Nat) (d : α) (h : i < l.length) : (l ++ m).getD i d = l.getD i d := by
  simp [List.getD_eq_getElem?_getD, List.getElem?_append_left h]
theorem getD_append_eq {α : Type} (l : List α) (x d : α) : (l ++ [x]).getD l.length d = x := by
  simp [List.getD_eq_getElem?_getD]
theorem HI.lt_of (h : HI HT PT SU ST w base hb kind r o all saved bs ss a1 c1 a2 c2 S) {k : Nat} (hk : k ∈ S) : k < w.heap.size := (h.Slt k hk).2
theorem HI.push (h : HI HT PT SU ST w base hb kind r o all saved bs ss a1 c1 a2 c2 S) {wB wC : World} {g c1' : Nat} {a1' : Option Addr} {data : Bs} (hf : Fr [] w wB) (hH : HsAt wB g ST r o data) (hg : w.heap.size ≤ g) (hbase : base ≤ w.heap.size)
    (ho : wC.ownsRow base PT 1 (.slice a1' (all.length + 1) c1') (all.length + 1) (bs.map ptr ++ [ptr g])) (hgr : wB.grownBy wC (Value.slice a1 all.length c1).ownBlock) (ha : a1' = a1 ∨ a1' = some ⟨wB.heap.size, 0, none⟩) :
    HI HT PT SU ST (wC.setCell ⟨hb, 1, none⟩ (.slice a1' (all.length + 1) c1')) base hb kind r o (all ++ [data]) saved (bs ++ [g]) ss a1' c1' a2 c2 (g :: (blkOf a1' ++ S)) ∧ Fr S w (wC.setCell ⟨hb, 1, none⟩ (.slice a1' (all.length + 1) c1')) := by
  have hbl := h.lt_of h.hbS
  have hgl := hH.lt
  have hsz := hf.size
  have fBC : Fr (blkOf a1) wB wC := by
    rw [← ownBlock_blkOf a1 all.length c1]
    exact (Fr.refl _ _).grown hgr (fun k hk => by rw [hk]; exact .inr (by simp))
  have fCD : Fr [hb] wC (wC.setCell ⟨hb, 1, none⟩ (.slice a1' (all.length + 1) c1')) := (Fr.refl _ _).setCell _ _ (.inr (by simp))
  have hne1 : ∀ x, a1' = some x → x.block ≠ hb ∧ x.block ∉ bs ∧ x.block ≠ g ∧ (∀ y, a2 = some y → x.block ≠ y.block) := fun x hx => by
    rcases ha with rfl | rfl
    · refine ⟨(h.a1bs x hx).1, (h.a1bs x hx).2, ?_, fun y hy => h.a12 x y hx hy⟩
      have := h.lt_of (h.a1S x hx)
      omega
    · simp only [Option.some.injEq] at hx
      subst hx
      refine ⟨by simp only; omega, fun hm => ?_, by simp only; omega, fun y hy => ?_⟩
      · have := h.lt_of (h.bsS _ hm)
        simp only at this
        omega
      · have := h.lt_of (h.a2S y hy)
        simp only
        omega
  have hblkC : wC.heap[hb]? = some (.cells #[.int .i64 kind, .slice a1 all.length c1, .slice a2 saved.length c2] HT (0, 0)) := by
    refine fBC.obj (hf.obj h.blk (by simp)) (fun hm => ?_)
    obtain ⟨x, hx, e⟩ := mem_blkOf.1 hm
    exact (h.a1bs x hx).1 e
  have hfar : ∀ k, k < wB.heap.size → k ∉ blkOf a1 → k ≠ hb → (wC.setCell ⟨hb, 1, none⟩ (.slice a1' (all.length + 1) c1')).heap[k]? = wB.heap[k]? := fun k hk h1 h2 => by
    rw [fCD.block k (Nat.lt_of_lt_of_le hk fBC.size) (by simpa using h2), fBC.block k hk h1]
  have fBD : Fr (hb :: blkOf a1) wB (wC.setCell ⟨hb, 1, none⟩ (.slice a1' (all.length + 1) c1')) :=
    ⟨fCD.os.trans fBC.os, fCD.tape.trans fBC.tape, fCD.output.trans fBC.output, Nat.le_trans fBC.size fCD.size, fun k hk hs => hfar k hk (fun x => hs (by simp [x])) (fun x => hs (by simp [x]))⟩
  have hbsa : ∀ b ∈ bs, b ∉ hb :: blkOf a1 := fun b hb' hm => by
    rcases List.mem_cons.1 hm with e | hm
    · exact h.hbbs (e ▸ hb')
    · obtain ⟨x, hx, e⟩ := mem_blkOf.1 hm
      exact (h.a1bs x hx).2 (e ▸ hb')
  have hga : g ∉ hb :: blkOf a1 := fun hm => by
    rcases List.mem_cons.1 hm with e | hm
    · omega
    · obtain ⟨x, hx, e⟩ := mem_blkOf.1 hm
      have := h.lt_of (h.a1S x hx)
      omega
  refine ⟨⟨?_, ?_, ?_, ?_, ?_, h.sl, ?_, ?_, ?_, ?_, ?_, ?_, ?_, ?_, ?_, ?_, ?_, ?_, h.rt⟩, ?_⟩
  · rw [Go.Sha.heap_setCell_same hblkC]
    simp
  · simp [h.bl]
  · rw [show (all ++ [data]).length = all.length + 1 by simp, List.map_append]
    refine ownsRow_keep ho fCD (fun k hk => ?_)
    obtain ⟨x, hx, rfl⟩ := ownBlock_some hk
    simpa using (hne1 x hx).1
  · intro i hi
    simp only [List.length_append, List.length_cons, List.length_nil] at hi
    by_cases e : i < all.length
    · rw [getD_append_lt _ _ _ _ e, getD_append_lt _ _ _ _ (by rw [h.bl]; exact e)]
      exact ((h.hs i e).keep hf (by simp)).keep fBD (hbsa _ (getD_mem (by rw [h.bl]; exact e)))
    · obtain rfl : i = all.length := by omega
      rw [getD_append_eq]
      have : (bs ++ [g]).getD all.length 0 = g := by rw [← h.bl]; exact getD_append_eq bs g 0
      rw [this]
      exact hH.keep fBD hga
  · rw [List.nodup_append]
    refine ⟨h.nodup, by simp, fun a ha' b hb' => ?_⟩
    simp only [List.mem_cons, List.not_mem_nil, or_false] at hb'
    subst hb'
    have := h.lt_of (h.bsS a ha')
    omega
  · refine ownsRow_keep (ownsRow_keep h.rowS hf (by simp)) fBD (fun k hk => ?_)
    obtain ⟨x, hx, rfl⟩ := ownBlock_some hk
    intro hm
    rcases List.mem_cons.1 hm with e | hm
    · exact (h.a2bs x hx).1 e
    · obtain ⟨y, hy, e⟩ := mem_blkOf.1 hm
      exact h.a12 y x hy hx e
  · intro i hi
    have hs := h.sv i hi
    have hlt := hs.1.lt (x := ⟨(ss.getD i (0, 0)).1, 0, none⟩) rfl (by decide)
    simp only at hlt
    refine ⟨(hs.1.keep0 hf).keep fBD (fun x hx _ hm => ?_), fun hm => ?_⟩
    · simp only [Option.some.injEq] at hx
      subst hx
      rcases List.mem_cons.1 hm with e | hm
      · simp only at e
        exact hs.2 (e ▸ h.hbS)
      · obtain ⟨y, hy, e⟩ := mem_blkOf.1 hm
        simp only at e
        exact hs.2 (e ▸ h.a1S y hy)
    · rcases List.mem_cons.1 hm with e | hm
      · omega
      · rcases List.mem_append.1 hm with hm | hm
        · obtain ⟨y, hy, e⟩ := mem_blkOf.1 hm
          rcases ha with rfl | rfl
          · exact hs.2 (e ▸ h.a1S y hy)
          · simp only [Option.some.injEq] at hy
            subst hy
            simp only at e
            omega
        · exact hs.2 hm
  · simp [h.hbS]
  · intro b hb'
    rcases List.mem_append.1 hb' with hb' | hb'
    · simp [h.bsS b hb']
    · simp only [List.mem_cons, List.not_mem_nil, or_false] at hb'
      simp [hb']
  · intro x hx
    have : x.block ∈ blkOf a1' := mem_blkOf.2 ⟨x, hx, rfl⟩
    simp [this]
  · intro x hx
    simp [h.a2S x hx]
  · simp only [List.mem_append, List.mem_cons, List.not_mem_nil, or_false, not_or]
    exact ⟨h.hbbs, by omega⟩
  · intro x hx
    refine ⟨(hne1 x hx).1, ?_⟩
    simp only [List.mem_append, List.mem_cons, List.not_mem_nil, or_false, not_or]
    exact ⟨(hne1 x hx).2.1, (hne1 x hx).2.2.1⟩
  · intro x hx
    refine ⟨(h.a2bs x hx).1, ?_⟩
    simp only [List.mem_append, List.mem_cons, List.not_mem_nil, or_false, not_or]
    refine ⟨(h.a2bs x hx).2, ?_⟩
    have := h.lt_of (h.a2S x hx)
    omega
  · exact fun x y hx hy => (hne1 x hx).2.2.2 y hy
  · intro k hk
    rcases List.mem_cons.1 hk with e | hk
    · subst e
      exact ⟨by omega, Nat.lt_of_lt_of_le hgl fBD.size⟩
    · rcases List.mem_append.1 hk with hk | hk
      · obtain ⟨x, hx, rfl⟩ := mem_blkOf.1 hk
        have := ownsRow_lt ho (show (Value.slice a1' (all.length + 1) c1').ownBlock = some x.block by rw [hx]; rfl)
        exact ⟨this.1, Nat.lt_of_lt_of_le this.2 fCD.size⟩
      · exact ⟨(h.Slt k hk).1, Nat.lt_of_lt_of_le (h.Slt k hk).2 (Nat.le_trans hsz fBD.size)⟩
  · simp
  · refine (hf.mono (T := S) (by simp)).trans (fBD.mono (fun k _ hk => ?_))
    rcases List.mem_cons.1 hk with e | hk
    · exact e ▸ h.hbS
    · obtain ⟨x, hx, e⟩ := mem_blkOf.1 hk
      exact e ▸ h.a1S x hx
theorem HI.addSaved (h : HI HT PT SU ST w base hb kind r o all saved bs ss a1 c1 a2 c2 S) {wB wC : World} {g c c2' : Nat} {a2' : Option Addr} {data : Bs} (hf : Fr [] w wB) (hH : Sl wB (some ⟨g, 0, none⟩) 207 c (marH r o data)) (hg : w.heap.size ≤ g)
    (ho : wC.ownsRow base SU 1 (.slice a2' (saved.length + 1) c2') (saved.length + 1) (ss.map slv ++ [slv (g, c)])) (hgr : wB.grownBy wC (Value.slice a2 saved.length c2).ownBlock) (ha : a2' = a2 ∨ a2' = some ⟨wB.heap.size, 0, none⟩) :
    HI HT PT SU ST (wC.setCell ⟨hb, 2, none⟩ (.slice a2' (saved.length + 1) c2')) base hb kind r o all (saved ++ [data]) bs (ss ++ [(g, c)]) a1 c1 a2' c2' (blkOf a2' ++ S) ∧ Fr S w (wC.setCell ⟨hb, 2, none⟩ (.slice a2' (saved.length + 1) c2')) := by
  have hbl := h.lt_of h.hbS
  have hgl : g < wB.heap.size := hH.lt (x := ⟨g, 0, none⟩) rfl (by decide)
  have hsz := hf.size
  have fBC : Fr (blkOf a2) wB wC := by
    rw [← ownBlock_blkOf a2 saved.length c2]
    exact (Fr.refl _ _).grown hgr (fun k hk => by rw [hk]; exact .inr (by simp))
  have fCD : Fr [hb] wC (wC.setCell ⟨hb, 2, none⟩ (.slice a2' (saved.length + 1) c2')) := (Fr.refl _ _).setCell _ _ (.inr (by simp))
  have hne1 : ∀ x, a2' = some x → x.block ≠ hb ∧ x.block ∉ bs ∧ x.block ≠ g ∧ (∀ y, a1 = some y → y.block ≠ x.block) := fun x hx => by
    rcases ha with rfl | rfl
    · refine ⟨(h.a2bs x hx).1, (h.a2bs x hx).2, ?_, fun y hy => h.a12 y x hy hx⟩
      have := h.lt_of (h.a2S x hx)
      omega
    · simp only [Option.some.injEq] at hx
      subst hx
      refine ⟨by simp only; omega, fun hm => ?_, by simp only; omega, fun y hy => ?_⟩
      · have := h.lt_of (h.bsS _ hm)
        simp only at this
        omega
      · have := h.lt_of (h.a1S y hy)
        simp only
        omega
  have hblkC : wC.heap[hb]? = some (.cells #[.int .i64 kind, .slice a1 all.length c1, .slice a2 saved.length c2] HT (0, 0)) := by
    refine fBC.obj (hf.obj h.blk (by simp)) (fun hm => ?_)
    obtain ⟨x, hx, e⟩ := mem_blkOf.1 hm
    exact (h.a2bs x hx).1 e
  have fBD : Fr (hb :: blkOf a2) wB (wC.setCell ⟨hb, 2, none⟩ (.slice a2' (saved.length + 1) c2')) :=
    ⟨fCD.os.trans fBC.os, fCD.tape.trans fBC.tape, fCD.output.trans fBC.output, Nat.le_trans fBC.size fCD.size, fun k hk hs => by
      rw [fCD.block k (Nat.lt_of_lt_of_le hk fBC.size) (fun x => hs (by simp at x; simp [x])), fBC.block k hk (fun x => hs (by simp [x]))]⟩
  have hbsa : ∀ b ∈ bs, b ∉ hb :: blkOf a2 := fun b hb' hm => by
    rcases List.mem_cons.1 hm with e | hm
    · exact h.hbbs (e ▸ hb')
    · obtain ⟨x, hx, e⟩ := mem_blkOf.1 hm
      exact (h.a2bs x hx).2 (e ▸ hb')
  have hga : g ∉ hb :: blkOf a2 := fun hm => by
    rcases List.mem_cons.1 hm with e | hm
    · omega
    · obtain ⟨x, hx, e⟩ := mem_blkOf.1 hm
      have := h.lt_of (h.a2S x hx)
      omega
  refine ⟨⟨?_, h.bl, ?_, ?_, h.nodup, ?_, ?_, ?_, ?_, ?_, ?_, ?_, h.hbbs, h.a1bs, ?_, ?_, ?_, h.pos, h.rt⟩, ?_⟩
  · rw [Go.Sha.heap_setCell_same hblkC]
    simp
  · refine ownsRow_keep (ownsRow_keep h.rowA hf (by simp)) fBD (fun k hk => ?_)
    obtain ⟨x, hx, rfl⟩ := ownBlock_some hk
    intro hm
    rcases List.mem_cons.1 hm with e | hm
    · exact (h.a1bs x hx).1 e
    · obtain ⟨y, hy, e⟩ := mem_blkOf.1 hm
      exact h.a12 x y hx hy e.symm
  · exact fun i hi => ((h.hs i hi).keep hf (by simp)).keep fBD (hbsa _ (getD_mem (by rw [h.bl]; exact hi)))
  · simp [h.sl]
  · rw [show (saved ++ [data]).length = saved.length + 1 by simp, List.map_append]
    refine ownsRow_keep ho fCD (fun k hk => ?_)
    obtain ⟨x, hx, rfl⟩ := ownBlock_some hk
    simpa using (hne1 x hx).1
  · intro i hi
    simp only [List.length_append, List.length_cons, List.length_nil] at hi
    by_cases e : i < saved.length
    · rw [getD_append_lt _ _ _ _ e, getD_append_lt _ _ _ _ (by rw [h.sl]; exact e)]
      have hs := h.sv i e
      have hlt := hs.1.lt (x := ⟨(ss.getD i (0, 0)).1, 0, none⟩) rfl (by decide)
      simp only at hlt
      refine ⟨(hs.1.keep0 hf).keep fBD (fun x hx _ hm => ?_), fun hm => ?_⟩
      · simp only [Option.some.injEq] at hx
        subst hx
        rcases List.mem_cons.1 hm with e | hm
        · simp only at e
          exact hs.2 (e ▸ h.hbS)
        · obtain ⟨y, hy, e⟩ := mem_blkOf.1 hm
          simp only at e
          exact hs.2 (e ▸ h.a2S y hy)
      · rcases List.mem_append.1 hm with hm | hm
        · obtain ⟨y, hy, e⟩ := mem_blkOf.1 hm
          rcases ha with rfl | rfl
          · exact hs.2 (e ▸ h.a2S y hy)
          · simp only [Option.some.injEq] at hy
            subst hy
            simp only at e
            omega
        · exact hs.2 hm
    · obtain rfl : i = saved.length := by omega
      have e2 : (ss ++ [(g, c)]).getD saved.length (0, 0) = (g, c) := by rw [← h.sl]; exact getD_append_eq ss (g, c) (0, 0)
      rw [getD_append_eq, e2]
      refine ⟨hH.keep fBD (fun x hx _ hm => ?_), fun hm => ?_⟩
      · simp only [Option.some.injEq] at hx
        subst hx
        exact hga hm
      · rcases List.mem_append.1 hm with hm | hm
        · obtain ⟨y, hy, e⟩ := mem_blkOf.1 hm
          exact (hne1 y hy).2.2.1 e
        · have := h.lt_of hm
          simp only at this
          omega
  · simp [h.hbS]
  · intro b hb'
    simp [h.bsS b hb']
  · intro x hx
    simp [h.a1S x hx]
  · intro x hx
    have : x.block ∈ blkOf a2' := mem_blkOf.2 ⟨x, hx, rfl⟩
    simp [this]
  · exact fun x hx => ⟨(hne1 x hx).1, (hne1 x hx).2.1⟩
  · exact fun x y hx hy => (hne1 y hy).2.2.2 x hx
  · intro k hk
    rcases List.mem_append.1 hk with hk | hk
    · obtain ⟨x, hx, rfl⟩ := mem_blkOf.1 hk
      have := ownsRow_lt ho (show (Value.slice a2' (saved.length + 1) c2').ownBlock = some x.block by rw [hx]; rfl)
      exact ⟨this.1, Nat.lt_of_lt_of_le this.2 fCD.size⟩
    · exact ⟨(h.Slt k hk).1, Nat.lt_of_lt_of_le (h.Slt k hk).2 (Nat.le_trans hsz fBD.size)⟩
  · refine (hf.mono (T := S) (by simp)).trans (fBD.mono (fun k _ hk => ?_))
    rcases List.mem_cons.1 hk with e | hk
    · exact e ▸ h.hbS
    · obtain ⟨x, hx, e⟩ := mem_blkOf.1 hk
      exact e ▸ h.a2S x hx
end
end Go.Sha
end

section
namespace Go.Sha
def rOf (k : Nat) : Nat := [144, 136, 104, 72, 136].getD k 136
def oOf (k : Nat) : Nat := [28, 32, 48, 64, 32].getD k 32
theorem rt_of : ∀ k, k < 5 → Rt (rOf k) (oOf k)
  | 0, _ => ⟨by decide, by decide, by decide, by decide⟩
  | 1, _ => ⟨by decide, by decide, by decide, by decide⟩
  | 2, _ => ⟨by decide, by decide, by decide, by decide⟩
  | 3, _ => ⟨by decide, by decide, by decide, by decide⟩
  | 4, _ => ⟨by decide, by decide, by decide, by decide⟩
  | k + 5, h => absurd h (by omega)
theorem ro_of : ∀ k, k < 5 → 200 - 2 * oOf k = rOf k := by decide
/-- a number modulo five -/
def k5 (z : Int) : Nat := (z % 5).toNat
theorem k5_lt (z : Int) : k5 z < 5 := by unfold k5; omega
theorem k5_int (z : Int) : z % 5 = (k5 z : Int) := by unfold k5; omega
end Go.Sha
namespace Go.Proofs.Ytjgdbamlaajkmaa
open Go.ChangeShapes Go.WideShapes Go.ChangeAt Go.RowKit Go.Sha
theorem tmod_add_emod' (n m : Int) (hm : 0 < m) : (n.tmod m + m) % m = n % m := by
  rw [Int.add_emod_right]
  rw [Int.tmod_eq_emod]
  split
  · simp
  · have h : ((m.natAbs : Nat) : Int) = m := by omega
    rw [h, Int.sub_emod_right, Int.emod_emod_of_dvd _ (Int.dvd_refl m)]
theorem place_any (n m : Int) (w : World) (h0 : 0 < m) (h1 : m ≤ 4611686018427387904) :
    Calls Try.prog 31 #[.int .i64 n, .int .i64 m] w fun e w' => e = .returned (.int .i64 (n % m)) ∧ w' = w := by
  have ht1 := Int.tmod_lt_of_pos n h0
  have ht2 : -m < n.tmod m := Int.lt_tmod_of_pos n h0
  have hm : ¬ m = 0 := by omega
  have hmz : (m == 0) = false := by rw [beq_eq_false_iff_ne]; exact hm
  go_enter Try.func31, Try.ntmps31
  go_wp2
  go_ret
  exact ⟨ret_int (tmod_add_emod' n m h0), rfl⟩
theorem place_nat (n m : Int) (k : Nat) (w : World) (h0 : 0 < m) (h1 : m ≤ 4611686018427387904) (hk : n % m = (k : Int)) :
    Calls Try.prog 31 #[.int .i64 n, .int .i64 m] w fun e w' => e = .returned (.int .i64 (k : Int)) ∧ w' = w := by
  have := place_any n m w h0 h1
  rwa [hk] at this
theorem copied_any (a0 : Option Addr) (n c : Nat) (l : Bs) (w : World) (h : Sl w a0 n c l) (hn : n ≤ 140737488355328) :
    Calls Try.prog 36 #[.slice a0 n c] w (RetO 5 l w) := by
  obtain ⟨i0, hi, hz0, hz1, hz2⟩ := info_parts info5
  go_enter Try.func36, Try.ntmps36
  go_wp2_with (at_builtin; refine wpList_append_src _ rfl _ _ 22 22 rfl w.heap.size 5 i0 (.int .u8 0) 1 1 Try.underlying22 hi hz0 hz1 hz2 rfl none 0 0 [] rfl (World.ownsRow_nil _ _ _ _) _ n (l.map bv) rfl (h.src Try.underlying22) ?c1 ?c2 ?c3 ?_)
  case c1 => unfold maxLen; omega
  case c2 => omega
  case c3 => exact Nat.le_refl _
  intro a' c' w' ho hg
  go_wp2
  go_ret
  have hl := h.len
  subst hl
  exact ⟨a', c', rfl, ho, (Fr.refl _ _).grown hg (by simp [Value.ownBlock])⟩
theorem copied_n (a0 : Option Addr) (n c : Nat) (l : Bs) (w : World) (h : Sl w a0 n c l) (hn : n ≤ 140737488355328) :
    Calls Try.prog 36 #[.slice a0 n c] w fun e w' => ∃ a c', e = .returned (.slice a n c') ∧ Ow w' w.heap.size 5 a c' l ∧ Fr [] w w' := by
  have := copied_any a0 n c l w h hn
  unfold RetO at this
  rwa [h.len] at this
/-- a pointer to a new hash -/
def RetH (r o : Nat) (w : World) (e : Ending) (w' : World) : Prop := ∃ g, e = .returned (.pointer (some ⟨g, 0, none⟩)) ∧ w.heap.size ≤ g ∧ g < w'.heap.size ∧ HsAt w' g 60 r o [] ∧ Fr [] w w'

theorem newHash_0 (kind : Int) (w : World) (hk : kind % 5 = ((0 : Nat) : Int)) : Calls Try.prog 27 #[.int .i64 kind] w (RetH (rOf 0) (oOf 0) w) := by
  have t0 : ((0 : Int) == 0) = true := by decide
  have HK := Lib.hid hk
  clear hk
  go_enter Try.func27, Try.ntmps27
  go_wp2_with fail
  refine (place_nat kind 5 0 w (by decide) (by decide) HK.out).mono ?_
  rintro e w' ⟨rfl, rfl⟩
  go_wp2_with fail
  refine (libNew224_any w').mono ?_
  rintro e w1 ⟨g, rfl, h1, h2, h3, h4⟩
  have H3 := Lib.hid h3
  clear h3
  go_wp2_with fail
  go_ret
  exact ⟨g, rfl, h1, h2, .inl H3.out, h4⟩

theorem newHash_1 (kind : Int) (w : World) (hk : kind % 5 = ((1 : Nat) : Int)) : Calls Try.prog 27 #[.int .i64 kind] w (RetH (rOf 1) (oOf 1) w) := by
  have t0 : ((1 : Int) == 0) = false := by decide
  have t1 : ((1 : Int) == 1) = true := by decide
  have HK := Lib.hid hk
  clear hk
  go_enter Try.func27, Try.ntmps27
  go_wp2_with fail
  refine (place_nat kind 5 1 w (by decide) (by decide) HK.out).mono ?_
  rintro e w' ⟨rfl, rfl⟩
  go_wp2_with fail
  refine (libNew256_any w').mono ?_
  rintro e w1 ⟨g, rfl, h1, h2, h3, h4⟩
  have H3 := Lib.hid h3
  clear h3
  go_wp2_with fail
  go_ret
  exact ⟨g, rfl, h1, h2, .inl H3.out, h4⟩

theorem newHash_2 (kind : Int) (w : World) (hk : kind % 5 = ((2 : Nat) : Int)) : Calls Try.prog 27 #[.int .i64 kind] w (RetH (rOf 2) (oOf 2) w) := by
  have t0 : ((2 : Int) == 0) = false := by decide
  have t1 : ((2 : Int) == 1) = false := by decide
  have t2 : ((2 : Int) == 2) = true := by decide
  have HK := Lib.hid hk
  clear hk
  go_enter Try.func27, Try.ntmps27
  go_wp2_with fail
  refine (place_nat kind 5 2 w (by decide) (by decide) HK.out).mono ?_
  rintro e w' ⟨rfl, rfl⟩
  go_wp2_with fail
  refine (libNew384_any w').mono ?_
  rintro e w1 ⟨g, rfl, h1, h2, h3, h4⟩
  have H3 := Lib.hid h3
  clear h3
  go_wp2_with fail
  go_ret
  exact ⟨g, rfl, h1, h2, .inl H3.out, h4⟩

theorem newHash_3 (kind : Int) (w : World) (hk : kind % 5 = ((3 : Nat) : Int)) : Calls Try.prog 27 #[.int .i64 kind] w (RetH (rOf 3) (oOf 3) w) := by
  have t0 : ((3 : Int) == 0) = false := by decide
  have t1 : ((3 : Int) == 1) = false := by decide
  have t2 : ((3 : Int) == 2) = false := by decide
  have t3 : ((3 : Int) == 3) = true := by decide
  have HK := Lib.hid hk
  clear hk
  go_enter Try.func27, Try.ntmps27
  go_wp2_with fail
  refine (place_nat kind 5 3 w (by decide) (by decide) HK.out).mono ?_
  rintro e w' ⟨rfl, rfl⟩
  go_wp2_with fail
  refine (libNew512_any w').mono ?_
  rintro e w1 ⟨g, rfl, h1, h2, h3, h4⟩
  have H3 := Lib.hid h3
  clear h3
  go_wp2_with fail
  go_ret
  exact ⟨g, rfl, h1, h2, .inl H3.out, h4⟩

set_option maxRecDepth 100000 in
theorem newHash_4 (kind : Int) (w : World) (hk : kind % 5 = ((4 : Nat) : Int)) : Calls Try.prog 27 #[.int .i64 kind] w (RetH (rOf 4) (oOf 4) w) := by
  have t0 : ((4 : Int) == 0) = false := by decide
  have t1 : ((4 : Int) == 1) = false := by decide
  have t2 : ((4 : Int) == 2) = false := by decide
  have t3 : ((4 : Int) == 3) = false := by decide
  have HK := Lib.hid hk
  clear hk
  go_enter Try.func27, Try.ntmps27
  go_wp2_with fail
  refine (place_nat kind 5 4 w (by decide) (by decide) HK.out).mono ?_
  rintro e w' ⟨rfl, rfl⟩
  go_wp2_with (first | (refine wpList_alloc_row rfl _ rfl _ zeroSH ?_; refine Hid.out ?_))
  show wpList _ _ _ _ _ _
  have D1 : Hid (DgAt (w'.alloc (.cells (newD 0 0 0).cells.toArray 60)) w'.heap.size 60 [] (newD 0 0 0)) := ⟨List.length_replicate, by rw [List.append_nil]; exact Go.heap_alloc_new w' _⟩
  have f1 : Fr [] w' (w'.alloc (.cells (newD 0 0 0).cells.toArray 60)) := (Fr.refl _ _).alloc _
  have z1 : w'.heap.size < (w'.alloc (.cells (newD 0 0 0).cells.toArray 60)).heap.size := by simp
  generalize w'.alloc (.cells (newD 0 0 0).cells.toArray 60) = w1 at D1 f1 z1 ⊢
  go_wp2_with fail
  go_ret
  exact ⟨_, rfl, Nat.le_refl _, z1, .inr ⟨rfl, rfl, rfl, D1.out⟩, f1⟩
theorem newHash_any (kind : Int) (w : World) : Calls Try.prog 27 #[.int .i64 kind] w (RetH (rOf (k5 kind)) (oOf (k5 kind)) w) := by
  have h := k5_int kind
  have hl := k5_lt kind
  generalize k5 kind = k at h hl
  obtain rfl | rfl | rfl | rfl | rfl : k = 0 ∨ k = 1 ∨ k = 2 ∨ k = 3 ∨ k = 4 := by omega
  · exact newHash_0 kind w h
  · exact newHash_1 kind w h
  · exact newHash_2 kind w h
  · exact newHash_3 kind w h
  · exact newHash_4 kind w h

end Go.Proofs.Ytjgdbamlaajkmaa
end

section
namespace Go.Sha
open Go.RowKit
/-- what a call returns -/
structure Res where
  n : Int
  data : Bs
  ok : Bool
  pan : Bool
structure Actn where
  k : Int
  at_ : Int
  pick : Int
  data : Bs
/-- a number modulo another one -/
def ix (z : Int) (n : Nat) : Nat := (z % (n : Int)).toNat
theorem ix_lt (z : Int) (n : Nat) (h : 0 < n) : ix z n < n := by
  unfold ix
  have h1 := Int.emod_nonneg z (show (n : Int) ≠ 0 by omega)
  have h2 := Int.emod_lt_of_pos z (show (0 : Int) < n by omega)
  omega
theorem ix_int (z : Int) (n : Nat) (h : 0 < n) : z % (n : Int) = (ix z n : Int) := by
  unfold ix
  have h1 := Int.emod_nonneg z (show (n : Int) ≠ 0 by omega)
  omega
/-- the hash of bytes -/
def hsum (r o : Nat) (d : Bs) : Bs := xof r o 6 d o
theorem hsum_length (r o : Nat) (d : Bs) : (hsum r o d).length = o := xof_length _ _ _ _ _
/-- one call: its result, what has been written to each hash, what has been saved -/
def stepH (r o : Nat) (all saved : List Bs) (x : Actn) : Res × List Bs × List Bs :=
  match ix x.k 10 with
  | 0 => (⟨x.data.length, x.data, true, false⟩, all.set (ix x.at_ all.length) (all.getD (ix x.at_ all.length) [] ++ x.data), saved)
  | 1 => (⟨0, x.data ++ hsum r o (all.getD (ix x.at_ all.length) []), false, false⟩, all, saved)
  | 2 => (⟨0, [], false, false⟩, all.set (ix x.at_ all.length) [], saved)
  | 3 => (⟨o, [], false, false⟩, all, saved)
  | 4 => (⟨r, [], false, false⟩, all, saved)
  | 5 => (⟨0, [], true, false⟩, all ++ [all.getD (ix x.at_ all.length) []], saved)
  | 6 => (⟨0, [], false, false⟩, all ++ [[]], saved)
  | 7 => (⟨0, [], true, false⟩, all, saved ++ [all.getD (ix x.at_ all.length) []])
  | 8 => (⟨0, x.data, true, false⟩, all, saved ++ [all.getD (ix x.at_ all.length) []])
  | _ => if saved.length = 0 then (⟨0, [], false, false⟩, all, saved) else (⟨0, [], true, false⟩, all.set (ix x.at_ all.length) (saved.getD (ix x.pick saved.length) []), saved)
end Go.Sha
namespace Go.Proofs.Ytjgdbamlaajkmaa
open Go.ChangeShapes Go.WideShapes Go.ChangeAt Go.RowKit Go.Sha
/-- the state of a script -/
def HInv (w : World) (base hb : Nat) (kind : Int) (r o : Nat) (all saved : List Bs) (S : List Nat) : Prop := ∃ bs ss a1 c1 a2 c2, HI 50 45 22 60 w base hb kind r o all saved bs ss a1 c1 a2 c2 S
/-- what a call leaves -/
def ActR (base hb : Nat) (kind : Int) (r o : Nat) (x : Res × List Bs × List Bs) (S : List Nat) (w : World) (e : Ending) (w' : World) : Prop :=
  ∃ a c S', e = .returned (.agg #[.int .i64 x.1.n, .slice a x.1.data.length c, .bool x.1.ok, .bool x.1.pan]) ∧ Ow w' w.heap.size 5 a c x.1.data ∧ HInv w' base hb kind r o x.2.1 x.2.2 S' ∧ Fr S w w' ∧ (∀ k ∈ S', k ∈ S ∨ w.heap.size ≤ k) ∧ (∀ y, a = some y → y.block ∉ S')
theorem HI_row {w : World} {base hb : Nat} {kind : Int} {r o : Nat} {all saved : List Bs} {bs : List Nat} {ss : List (Nat × Nat)} {a1 a2 : Option Addr} {c1 c2 : Nat} {S : List Nat} (h : HI 50 45 22 60 w base hb kind r o all saved bs ss a1 c1 a2 c2 S) :
    ∃ ga, a1 = some ⟨ga, 0, none⟩ ∧ all.length ≤ c1 ∧ c1 ≤ 9223372036854775807 ∧ ∀ i, i < all.length → w.cell? ⟨ga, i, none⟩ = some (ptr (bs.getD i 0)) := by
  rcases h.rowA.2 with ⟨h2, h0⟩ | ⟨g, cap, cur, hv, hb', hg, hn, hm, hs, ht⟩
  · have := h.pos
    omega
  · simp only [Value.slice.injEq] at hv
    obtain ⟨rfl, _, rfl⟩ := hv
    refine ⟨g, rfl, hn, by unfold maxLen at hm; omega, fun i hi => ?_⟩
    have h4 : (cur.toList.take (all.length * 1))[i]? = (bs.map ptr)[i]? := by rw [ht]
    have h5 : (bs.map ptr)[i]? = some (ptr (bs.getD i 0)) := by
      rw [List.getElem?_map, List.getD_eq_getElem?_getD, List.getElem?_eq_getElem (l := bs) (by rw [h.bl]; exact hi)]
      rfl
    rw [List.getElem?_take_of_lt (by omega), h5, Array.getElem?_toList] at h4
    simp only [World.cell?, hg]
    exact h4
theorem sizeRT : (Try.prog.info? 31).map (·.size) = some 4 := by kernel_rfl
theorem set_getD {α : Type} (l : List α) (i : Nat) (d : α) : l.set i (l.getD i d) = l := by
  by_cases h : i < l.length
  · apply List.ext_getElem?
    intro j
    rw [List.getElem?_set]
    by_cases e : i = j
    · subst e; simp [h]
    · rw [if_neg e]
  · rw [List.set_eq_of_length_le (by omega)]
theorem Fr_trans_new {S T : List Nat} {w w1 w2 : World} (h : Fr S w w1) (k : Fr T w1 w2) (hT : ∀ x ∈ T, w.heap.size ≤ x) : Fr S w w2 :=
  ⟨k.os.trans h.os, k.tape.trans h.tape, k.output.trans h.output, Nat.le_trans h.size k.size, fun i hi hs => (k.block i (Nat.lt_of_lt_of_le hi h.size) (fun hx => by have := hT i hx; omega)).trans (h.block i hi hs)⟩
theorem HI_keepNew {w w' : World} {base hb : Nat} {kind : Int} {r o : Nat} {all saved : List Bs} {bs : List Nat} {ss : List (Nat × Nat)} {a1 a2 : Option Addr} {c1 c2 : Nat} {S T : List Nat} (h : HI 50 45 22 60 w base hb kind r o all saved bs ss a1 c1 a2 c2 S) (hf : Fr T w w') (hT : ∀ x ∈ T, x ∉ S ∧ ∀ i, i < saved.length → (ss.getD i (0, 0)).1 ≠ x) :
    HI 50 45 22 60 w' base hb kind r o all saved bs ss a1 c1 a2 c2 S :=
  ⟨hf.obj h.blk (fun hx => (hT _ hx).1 h.hbS), h.bl, ownsRow_keep h.rowA hf (fun k hk hx => by obtain ⟨x, hx', rfl⟩ := ownBlock_some hk; exact (hT _ hx).1 (h.a1S x hx')), fun i hi => (h.hs i hi).keep hf (fun hx => (hT _ hx).1 (h.bsS _ (getD_mem (by rw [h.bl]; exact hi)))), h.nodup, h.sl,
   ownsRow_keep h.rowS hf (fun k hk hx => by obtain ⟨x, hx', rfl⟩ := ownBlock_some hk; exact (hT _ hx).1 (h.a2S x hx')), fun i hi => ⟨(h.sv i hi).1.keep hf (fun x hx _ hm => by simp only [Option.some.injEq] at hx; subst hx; exact (hT _ hm).2 i hi rfl), (h.sv i hi).2⟩, h.hbS, h.bsS, h.a1S, h.a2S, h.hbbs, h.a1bs, h.a2bs, h.a12, fun k hk => ⟨(h.Slt k hk).1, Nat.lt_of_lt_of_le (h.Slt k hk).2 hf.size⟩, h.pos, h.rt⟩
theorem newOk {w : World} {base hb : Nat} {kind : Int} {r o : Nat} {all saved : List Bs} {bs : List Nat} {ss : List (Nat × Nat)} {a1 a2 : Option Addr} {c1 c2 : Nat} {S : List Nat} (h : HI 50 45 22 60 w base hb kind r o all saved bs ss a1 c1 a2 c2 S) : ∀ x ∈ [w.heap.size + 1], x ∉ S ∧ ∀ i, i < saved.length → (ss.getD i (0, 0)).1 ≠ x := fun x hx => by
  simp only [List.mem_cons, List.not_mem_nil, or_false] at hx
  subst hx
  refine ⟨fun hm => ?_, fun i hi e => ?_⟩
  · have := h.lt_of hm
    omega
  · have := (h.sv i hi).1.lt (x := ⟨(ss.getD i (0, 0)).1, 0, none⟩) rfl (by decide)
    simp only at this
    omega
theorem below_fr {B : Nat} {w w' : World} (h : Below B w w') : Fr (List.range' B (w.heap.size - B)) w w' :=
  ⟨h.os, h.tape, h.output, h.size, fun k hk hs => h.block k (by
    rcases Nat.lt_or_ge k B with h1 | h1
    · exact h1
    · exact absurd (List.mem_range'_1.2 ⟨h1, by omega⟩) hs)⟩
theorem HI_below {w w' : World} {base hb B : Nat} {kind : Int} {r o : Nat} {all saved : List Bs} {bs : List Nat} {ss : List (Nat × Nat)} {a1 a2 : Option Addr} {c1 c2 : Nat} {S : List Nat} (h : HI 50 45 22 60 w base hb kind r o all saved bs ss a1 c1 a2 c2 S) (hf : Below B w w') (hS : ∀ x ∈ S, x < B) (hs : ∀ i, i < saved.length → (ss.getD i (0, 0)).1 < B) :
    HI 50 45 22 60 w' base hb kind r o all saved bs ss a1 c1 a2 c2 S := HI_keepNew h (below_fr hf) (fun x hx => by
      have := (List.mem_range'_1.1 hx).1
      exact ⟨fun hm => by have := hS x hm; omega, fun i hi e => by have := hs i hi; omega⟩)
/-- what is known at the start of a call, carried through its first statement -/
structure A1 (w : World) (base hb : Nat) (kind : Int) (r o : Nat) (all saved : List Bs) (bs : List Nat) (ss : List (Nat × Nat)) (a1 a2 : Option Addr) (c1 c2 : Nat) (S : List Nat) (ad : Option Addr) (nd cd : Nat) (data : Bs) (k att pick : Int) (wr : World) : Prop where
  hi : HI 50 45 22 60 wr base hb kind r o all saved bs ss a1 c1 a2 c2 S
  sl : Sl wr ad nd cd data
  b1 : wr.heap[w.heap.size]? = some (.cells #[.int .i64 k, .int .i64 att, .int .i64 pick, .slice ad nd cd] 26 (0, 0))
  b2 : wr.heap[w.heap.size + 1]? = some (.cells #[.int .i64 0, .slice none 0 0, .bool false, .bool false] 31 (0, 0))
  fr : Fr [] w wr
section
variable {w wr w' : World} {base hb : Nat} {kind : Int} {r o : Nat} {all saved : List Bs} {bs : List Nat} {ss : List (Nat × Nat)} {a1 a2 : Option Addr} {c1 c2 : Nat} {S : List Nat} {ad : Option Addr} {nd cd : Nat} {data : Bs} {k att pick : Int}
theorem A1.keep (h : A1 w base hb kind r o all saved bs ss a1 a2 c1 c2 S ad nd cd data k att pick wr) (hf : Fr [] wr w') : A1 w base hb kind r o all saved bs ss a1 a2 c1 c2 S ad nd cd data k att pick w' :=
  ⟨h.hi.keep0 hf, h.sl.keep0 hf, hf.obj h.b1 (by simp), hf.obj h.b2 (by simp), h.fr.trans hf⟩
theorem A1.start (h : HI 50 45 22 60 w base hb kind r o all saved bs ss a1 c1 a2 c2 S) (hS : Sl w ad nd cd data) (k att pick : Int) :
    A1 w base hb kind r o all saved bs ss a1 a2 c1 c2 S ad nd cd data k att pick ((w.alloc (.cells #[.int .i64 k, .int .i64 att, .int .i64 pick, .slice ad nd cd] 26)).alloc (.cells #[.int .i64 0, .slice none 0 0, .bool false, .bool false] 31)) := by
  have f : Fr [] w ((w.alloc (.cells #[.int .i64 k, .int .i64 att, .int .i64 pick, .slice ad nd cd] 26)).alloc (.cells #[.int .i64 0, .slice none 0 0, .bool false, .bool false] 31)) := ((Fr.refl _ _).alloc _).alloc _
  refine ⟨h.keep0 f, hS.keep0 f, ((Fr.refl [] _).alloc _).obj (Go.heap_alloc_new w _) (by simp), ?_, f⟩
  have e := Go.heap_alloc_new (w.alloc (.cells #[.int .i64 k, .int .i64 att, .int .i64 pick, .slice ad nd cd] 26)) (.cells #[.int .i64 0, .slice none 0 0, .bool false, .bool false] 31)
  rw [show (w.alloc (.cells #[.int .i64 k, .int .i64 att, .int .i64 pick, .slice ad nd cd] 26)).heap.size = w.heap.size + 1 by simp] at e
  exact e
/-- the cells that the first statement reads -/
theorem A1.held (h : A1 w base hb kind r o all saved bs ss a1 a2 c1 c2 S ad nd cd data k att pick wr) {i ga n : Nat} {b : Nat} (hi : i < all.length) (ha : a1 = some ⟨ga, 0, none⟩) (hb' : bs.getD i 0 = b) (hn : all.length = n) :
    wr.cell? ⟨hb, 1, none⟩ = some (.slice (some ⟨ga, 0, none⟩) n c1) ∧ wr.cell? ⟨w.heap.size, 1, none⟩ = some (.int .i64 att) ∧ wr.cell? ⟨w.heap.size, 3, none⟩ = some (.slice ad nd cd) ∧ wr.cell? ⟨ga, i, none⟩ = some (.pointer (some ⟨b, 0, none⟩)) ∧ A1 w base hb kind r o all saved bs ss a1 a2 c1 c2 S ad nd cd data k att pick wr := by
  obtain ⟨ga', e1, _, _, hc⟩ := HI_row h.hi
  rw [ha] at e1
  simp only [Option.some.injEq, Addr.mk.injEq] at e1
  obtain ⟨rfl, _, _⟩ := e1
  refine ⟨?_, by rw [cell_of h.b1]; rfl, by rw [cell_of h.b1]; rfl, by rw [hc i hi, hb']; rfl, h⟩
  rw [cell_of h.hi.blk, ha, hn]
  rfl
end

set_option maxRecDepth 100000 in
set_option maxHeartbeats 600000 in
theorem act_size (w : World) (base hb : Nat) (kind : Int) (r o : Nat) (all saved : List Bs) (bs : List Nat) (ss : List (Nat × Nat)) (a1 a2 : Option Addr) (c1 c2 : Nat) (S : List Nat) (ad : Option Addr) (nd cd : Nat) (data : Bs) (k att pick : Int) (h : HI 50 45 22 60 w base hb kind r o all saved bs ss a1 c1 a2 c2 S) (hS : Sl w ad nd cd data) (hnd : nd ≤ 140737488351232) (hall : all.length ≤ 1099511627776) (hkm : k % 10 = ((3 : Nat) : Int)) :
    Calls Try.prog 28 #[.pointer (some ⟨hb, 0, none⟩), .agg #[.int .i64 k, .int .i64 att, .int .i64 pick, .slice ad nd cd]] w (ActR base hb kind r o (stepH r o all saved ⟨k, att, pick, data⟩) S w) := by
  have hA0 := A1.start h hS k att pick
  obtain ⟨i, hi⟩ : ∃ i, i = ix att all.length := ⟨_, rfl⟩
  have hil : i < all.length := by rw [hi]; exact ix_lt _ _ h.pos
  have HIX : Hid (att % ((all.length : Nat) : Int) = (i : Int)) := by rw [hi]; exact ix_int _ _ h.pos
  have HII := Lib.hid hi
  have HKM : Hid (k % 10 = ((3 : Nat) : Int)) := hkm
  clear hi hkm
  obtain ⟨ga, hga, hac, hacm, _⟩ := HI_row h
  obtain ⟨b, hb0⟩ : ∃ b, b = bs.getD i 0 := ⟨_, rfl⟩
  obtain ⟨n, hnl⟩ : ∃ n, n = all.length := ⟨_, rfl⟩
  have hrt := Lib.hid h.rt
  have hapos := h.pos
  have HBB : Hid (bs.getD i 0 = b) := hb0.symm
  have HNL : Hid (all.length = n) := hnl.symm
  have HGA := Lib.hid hga
  rw [← hnl] at hil hac hapos hall HIX
  have hin : (i : Int) < (n : Int) := by omega
  have HIL : Hid (i < all.length) := by show _ < _; rw [HNL.out]; exact hil
  clear hb0 hnl
  have t0 : ((3 : Int) == 0) = false := by decide
  have t1 : ((3 : Int) == 1) = false := by decide
  have t2 : ((3 : Int) == 2) = false := by decide
  have t3 : ((3 : Int) == 3) = true := by decide
  subst hga
  have HH := Lib.hid h
  have HS := Lib.hid hS
  clear h hS
  go_enter Try.func28, Try.ntmps28
  go_wp2_with fail
  have R0 := hA0.keep (Fr.refl _ _).drew
  go_region_held3 (fun w' => w'.cell? ⟨hb, 1, none⟩ = some (.slice (some ⟨ga, 0, none⟩) n c1) ∧ w'.cell? ⟨w.heap.size, 1, none⟩ = some (.int .i64 att) ∧ w'.cell? ⟨w.heap.size, 3, none⟩ = some (.slice ad nd cd) ∧ w'.cell? ⟨ga, i, none⟩ = some (.pointer (some ⟨b, 0, none⟩)) ∧ A1 w base hb kind r o all saved bs ss (some ⟨ga, 0, none⟩) a2 c1 c2 S ad nd cd data k att pick w')
    (first | (exact R0.held HIL.out rfl HBB.out HNL.out) | (exact (R0.keep f5).held HIL.out rfl HBB.out HNL.out) | (go_keep))
    (first | (go_at_call 31; refine (place_nat att n i _ (by omega) (by omega) HIX.out).mono ?_; rintro e w4 ⟨rfl, rfl⟩) | (go_at_call 36; refine (copied_n ad nd cd data _ R0.sl (by omega)).mono ?_; rintro e w5 ⟨ao, co, rfl, O5, f5⟩))
  have R5 := R0.keep f5
  have q0 : w5.cell? ⟨w.heap.size, 0, none⟩ = some (.int .i64 k) := by rw [cell_of R5.b1]; rfl
  have OW5 : Hid (Ow w5 (w.heap.size + 1 + 1) 5 ao co data) := by
    have e5 := O5
    rw [show (((w.alloc (.cells #[.int .i64 k, .int .i64 att, .int .i64 pick, .slice ad nd cd] 26)).alloc (.cells #[.int .i64 0, .slice none 0 0, .bool false, .bool false] 31)).drew).heap.size = w.heap.size + 1 + 1 by simp [World.drew]] at e5
    exact e5
  have H5 := Lib.hid R5
  clear O5 R5 R0 hA0 f5
  go_wp2_with fail
  refine (place_nat k 10 3 _ (by decide) (by decide) HKM.out).mono ?_
  rintro e w5 ⟨rfl, rfl⟩
  clear q0
  have hs5 : Hid (HsAt w5 b 60 r o (all.getD i [])) := by have := H5.out.hi.hs i HIL.out; rw [HBB.out] at this; exact this
  have hbS : b ∈ S := by rw [← HBB.out]; exact HH.out.bsS _ (getD_mem (by rw [HH.out.bl]; exact HIL.out))
  have hbw : b < w.heap.size := HH.out.lt_of hbS
  have HBS := Lib.hid hbS
  clear hbS
  go_wp2_with fail
  refine (shaSize_any w5 b r o _ hrt.out hs5.out).mono ?_
  rintro e w6 ⟨rfl, D6, f6⟩
  have HD6 := Lib.hid D6
  clear D6
  have G6 : Hid (w6.heap[w.heap.size + 1]? = some (.cells #[.int .i64 0, .slice none 0 0, .bool false, .bool false] 31 (0, 0))) := f6.obj H5.out.b2 (by simp; omega)
  go_wp2_with (refine wpList_store_bits rfl _ _ _ rfl (w.heap.size + 1) rfl 31 #[.int .i64 (o : Int), .slice none 0 0, .bool false, .bool false] #[.int .i64 0, .slice none 0 0, .bool false, .bool false] rfl G6.out rfl (by intro v hv; simp at hv; rcases hv with rfl | rfl | rfl | rfl <;> rfl) sizeRT ?_; refine Hid.out ?_)
  show wpList _ _ _ _ _ _
  have G9 := Lib.hid (setRow_heap _ _ _ (#[.int .i64 (o : Int), .slice none 0 0, .bool false, .bool false] : Array Value) _ _ G6.out)
  have f9 : Fr [w.heap.size + 1] w6 (w6.setRow (w.heap.size + 1) #[.int .i64 (o : Int), .slice none 0 0, .bool false, .bool false]) := (Fr.refl _ _).setRow _ _ (.inr (by simp))
  generalize w6.setRow (w.heap.size + 1) #[.int .i64 (o : Int), .slice none 0 0, .bool false, .bool false] = w9 at G9 f9 ⊢
  go_wp2_with fail
  refine bodyPost_ret (v := .agg #[.int .i64 (o : Int), .slice none 0 0, .bool false, .bool false]) (results_cell_row rfl _ _ (w.heap.size + 1) _ _ _ _ rfl G9.out Try.underlying31 rfl sizeRT) rfl ?_
  have F9 : Fr S w w9 := Fr_trans_new ((H5.out.fr.mono (by simp)).trans (f6.mono (fun x _ hx => by simp at hx; rw [hx]; exact HBS.out)) : Fr S w w6) f9 (by simp)
  have K9 : HI 50 45 22 60 w9 base hb kind r o (all.set i (all.getD i [])) saved bs ss (some ⟨ga, 0, none⟩) c1 a2 c2 S := HI_keepNew (H5.out.hi.upd i HIL.out (all.getD i []) (by rw [HBB.out]; exact f6) (by rw [HBB.out]; exact .inl HD6.out)) f9 (newOk HH.out)
  have e9 : ix k 10 = 3 := by unfold ix; have := HKM.out; omega
  refine ⟨none, 0, S, ?_, ?_, ?_, F9, fun x hx => .inl hx, fun y hy => by cases hy⟩
  · simp only [stepH, e9]; rfl
  · simp only [stepH, e9]; exact Ow.nil _ _ _
  · simp only [stepH, e9]; exact ⟨_, _, _, _, _, _, by have := K9; rw [set_getD] at this; exact this⟩

set_option maxRecDepth 100000 in
set_option maxHeartbeats 600000 in
theorem act_block (w : World) (base hb : Nat) (kind : Int) (r o : Nat) (all saved : List Bs) (bs : List Nat) (ss : List (Nat × Nat)) (a1 a2 : Option Addr) (c1 c2 : Nat) (S : List Nat) (ad : Option Addr) (nd cd : Nat) (data : Bs) (k att pick : Int) (h : HI 50 45 22 60 w base hb kind r o all saved bs ss a1 c1 a2 c2 S) (hS : Sl w ad nd cd data) (hnd : nd ≤ 140737488351232) (hall : all.length ≤ 1099511627776) (hkm : k % 10 = ((4 : Nat) : Int)) :
    Calls Try.prog 28 #[.pointer (some ⟨hb, 0, none⟩), .agg #[.int .i64 k, .int .i64 att, .int .i64 pick, .slice ad nd cd]] w (ActR base hb kind r o (stepH r o all saved ⟨k, att, pick, data⟩) S w) := by
  have hA0 := A1.start h hS k att pick
  obtain ⟨i, hi⟩ : ∃ i, i = ix att all.length := ⟨_, rfl⟩
  have hil : i < all.length := by rw [hi]; exact ix_lt _ _ h.pos
  have HIX : Hid (att % ((all.length : Nat) : Int) = (i : Int)) := by rw [hi]; exact ix_int _ _ h.pos
  have HII := Lib.hid hi
  have HKM : Hid (k % 10 = ((4 : Nat) : Int)) := hkm
  clear hi hkm
  obtain ⟨ga, hga, hac, hacm, _⟩ := HI_row h
  obtain ⟨b, hb0⟩ : ∃ b, b = bs.getD i 0 := ⟨_, rfl⟩
  obtain ⟨n, hnl⟩ : ∃ n, n = all.length := ⟨_, rfl⟩
  have hrt := Lib.hid h.rt
  have hapos := h.pos
  have HBB : Hid (bs.getD i 0 = b) := hb0.symm
  have HNL : Hid (all.length = n) := hnl.symm
  have HGA := Lib.hid hga
  rw [← hnl] at hil hac hapos hall HIX
  have hin : (i : Int) < (n : Int) := by omega
  have HIL : Hid (i < all.length) := by show _ < _; rw [HNL.out]; exact hil
  clear hb0 hnl
  have t0 : ((4 : Int) == 0) = false := by decide
  have t1 : ((4 : Int) == 1) = false := by decide
  have t2 : ((4 : Int) == 2) = false := by decide
  have t3 : ((4 : Int) == 3) = false := by decide
  have t4 : ((4 : Int) == 4) = true := by decide
  subst hga
  have HH := Lib.hid h
  have HS := Lib.hid hS
  clear h hS
  go_enter Try.func28, Try.ntmps28
  go_wp2_with fail
  have R0 := hA0.keep (Fr.refl _ _).drew
  go_region_held3 (fun w' => w'.cell? ⟨hb, 1, none⟩ = some (.slice (some ⟨ga, 0, none⟩) n c1) ∧ w'.cell? ⟨w.heap.size, 1, none⟩ = some (.int .i64 att) ∧ w'.cell? ⟨w.heap.size, 3, none⟩ = some (.slice ad nd cd) ∧ w'.cell? ⟨ga, i, none⟩ = some (.pointer (some ⟨b, 0, none⟩)) ∧ A1 w base hb kind r o all saved bs ss (some ⟨ga, 0, none⟩) a2 c1 c2 S ad nd cd data k att pick w')
    (first | (exact R0.held HIL.out rfl HBB.out HNL.out) | (exact (R0.keep f5).held HIL.out rfl HBB.out HNL.out) | (go_keep))
    (first | (go_at_call 31; refine (place_nat att n i _ (by omega) (by omega) HIX.out).mono ?_; rintro e w4 ⟨rfl, rfl⟩) | (go_at_call 36; refine (copied_n ad nd cd data _ R0.sl (by omega)).mono ?_; rintro e w5 ⟨ao, co, rfl, O5, f5⟩))
  have R5 := R0.keep f5
  have q0 : w5.cell? ⟨w.heap.size, 0, none⟩ = some (.int .i64 k) := by rw [cell_of R5.b1]; rfl
  have OW5 : Hid (Ow w5 (w.heap.size + 1 + 1) 5 ao co data) := by
    have e5 := O5
    rw [show (((w.alloc (.cells #[.int .i64 k, .int .i64 att, .int .i64 pick, .slice ad nd cd] 26)).alloc (.cells #[.int .i64 0, .slice none 0 0, .bool false, .bool false] 31)).drew).heap.size = w.heap.size + 1 + 1 by simp [World.drew]] at e5
    exact e5
  have H5 := Lib.hid R5
  clear O5 R5 R0 hA0 f5
  go_wp2_with fail
  refine (place_nat k 10 4 _ (by decide) (by decide) HKM.out).mono ?_
  rintro e w5 ⟨rfl, rfl⟩
  clear q0
  have hs5 : Hid (HsAt w5 b 60 r o (all.getD i [])) := by have := H5.out.hi.hs i HIL.out; rw [HBB.out] at this; exact this
  have hbS : b ∈ S := by rw [← HBB.out]; exact HH.out.bsS _ (getD_mem (by rw [HH.out.bl]; exact HIL.out))
  have hbw : b < w.heap.size := HH.out.lt_of hbS
  have HBS := Lib.hid hbS
  clear hbS
  go_wp2_with fail
  refine (shaBlockSize_any w5 b r o _ hrt.out hs5.out).mono ?_
  rintro e w6 ⟨rfl, D6, f6⟩
  have HD6 := Lib.hid D6
  clear D6
  have G6 : Hid (w6.heap[w.heap.size + 1]? = some (.cells #[.int .i64 0, .slice none 0 0, .bool false, .bool false] 31 (0, 0))) := f6.obj H5.out.b2 (by simp; omega)
  go_wp2_with (refine wpList_store_bits rfl _ _ _ rfl (w.heap.size + 1) rfl 31 #[.int .i64 (r : Int), .slice none 0 0, .bool false, .bool false] #[.int .i64 0, .slice none 0 0, .bool false, .bool false] rfl G6.out rfl (by intro v hv; simp at hv; rcases hv with rfl | rfl | rfl | rfl <;> rfl) sizeRT ?_; refine Hid.out ?_)
  show wpList _ _ _ _ _ _
  have G9 := Lib.hid (setRow_heap _ _ _ (#[.int .i64 (r : Int), .slice none 0 0, .bool false, .bool false] : Array Value) _ _ G6.out)
  have f9 : Fr [w.heap.size + 1] w6 (w6.setRow (w.heap.size + 1) #[.int .i64 (r : Int), .slice none 0 0, .bool false, .bool false]) := (Fr.refl _ _).setRow _ _ (.inr (by simp))
  generalize w6.setRow (w.heap.size + 1) #[.int .i64 (r : Int), .slice none 0 0, .bool false, .bool false] = w9 at G9 f9 ⊢
  go_wp2_with fail
  refine bodyPost_ret (v := .agg #[.int .i64 (r : Int), .slice none 0 0, .bool false, .bool false]) (results_cell_row rfl _ _ (w.heap.size + 1) _ _ _ _ rfl G9.out Try.underlying31 rfl sizeRT) rfl ?_
  have F9 : Fr S w w9 := Fr_trans_new ((H5.out.fr.mono (by simp)).trans (f6.mono (fun x _ hx => by simp at hx; rw [hx]; exact HBS.out)) : Fr S w w6) f9 (by simp)
  have K9 : HI 50 45 22 60 w9 base hb kind r o (all.set i (all.getD i [])) saved bs ss (some ⟨ga, 0, none⟩) c1 a2 c2 S := HI_keepNew (H5.out.hi.upd i HIL.out (all.getD i []) (by rw [HBB.out]; exact f6) (by rw [HBB.out]; exact .inl HD6.out)) f9 (newOk HH.out)
  have e9 : ix k 10 = 4 := by unfold ix; have := HKM.out; omega
  refine ⟨none, 0, S, ?_, ?_, ?_, F9, fun x hx => .inl hx, fun y hy => by cases hy⟩
  · simp only [stepH, e9]; rfl
  · simp only [stepH, e9]; exact Ow.nil _ _ _
  · simp only [stepH, e9]; exact ⟨_, _, _, _, _, _, by have := K9; rw [set_getD] at this; exact this⟩

end Go.Proofs.Ytjgdbamlaajkmaa
end
