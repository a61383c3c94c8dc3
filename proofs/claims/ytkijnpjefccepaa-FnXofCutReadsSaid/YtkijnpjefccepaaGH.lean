/- Contracts and lemmas, merged: Hi, HiB, Nh, Res, Rsi. Their conditions stand in each. -/
import Derived.Test.YtkijnpjefccepaaGA
import Derived.Test.YtkijnpjefccepaaGB
import Derived.Test.YtkijnpjefccepaaGC
import Derived.Test.YtkijnpjefccepaaGG
section
namespace Go.Sha
open Go.RowKit
/-- a row of one's own stays while other blocks turn -/
theorem ownsRow_keep {S : List Nat} {w w' : World} {base e sz n : Nat} {v : Value} {xs : List Value} (h : w.ownsRow base e sz v n xs) (hf : Fr S w w') (hs : ∀ k, v.ownBlock = some k → k ∉ S) : w'.ownsRow base e sz v n xs := by
  obtain ⟨h1, h2⟩ := h
  refine ⟨h1, ?_⟩
  rcases h2 with h2 | ⟨g, cap, cur, hv, hg, hh, r⟩
  · exact .inl h2
  · exact .inr ⟨g, cap, cur, hv, hg, hf.obj hh (hs g (by rw [hv]; rfl)), r⟩
theorem ownsRow_mono {w : World} {base base' e sz n : Nat} {v : Value} {xs : List Value} (h : w.ownsRow base e sz v n xs) (hb : base' ≤ base) : w.ownsRow base' e sz v n xs := by
  obtain ⟨h1, h2⟩ := h
  refine ⟨h1, ?_⟩
  rcases h2 with h2 | ⟨g, cap, cur, hv, hg, hh, r⟩
  · exact .inl h2
  · exact .inr ⟨g, cap, cur, hv, Nat.le_trans hb hg, hh, r⟩
theorem ownsRow_lt {w : World} {base e sz n k : Nat} {v : Value} {xs : List Value} (h : w.ownsRow base e sz v n xs) (hk : v.ownBlock = some k) : base ≤ k ∧ k < w.heap.size := by
  rcases h.2 with ⟨h2, _⟩ | ⟨g, cap, cur, hv, hg, hh, r⟩
  · rw [h2] at hk; simp [Value.ownBlock] at hk
  · rw [hv] at hk
    have e : k = g := by simp [Value.ownBlock] at hk; exact hk.symm
    subst e
    exact ⟨hg, (Array.getElem?_eq_some_iff.1 hh).1⟩
def ptr (b : Nat) : Value := .pointer (some ⟨b, 0, none⟩)
def slv (x : Nat × Nat) : Value := .slice (some ⟨x.1, 0, none⟩) 207 x.2
/-- the state of a script: h lies in block hb, its hashes in the blocks bs, the saved states in ss; S: the blocks that a call may write -/
structure HI (HT PT SU ST : Nat) (w : World) (base hb : Nat) (kind : Int) (r o : Nat) (all : List Bs) (saved : List Bs) (bs : List Nat) (ss : List (Nat × Nat)) (a1 : Option Addr) (c1 : Nat) (a2 : Option Addr) (c2 : Nat) (S : List Nat) : Prop where
  blk : w.heap[hb]? = some (.cells #[.int .i64 kind, .slice a1 all.length c1, .slice a2 saved.length c2] HT (0, 0))
  bl : bs.length = all.length
  rowA : w.ownsRow base PT 1 (.slice a1 all.length c1) all.length (bs.map ptr)
  hs : ∀ i, i < all.length → HsAt w (bs.getD i 0) ST r o (all.getD i [])
  nodup : bs.Nodup
  sl : ss.length = saved.length
  rowS : w.ownsRow base SU 1 (.slice a2 saved.length c2) saved.length (ss.map slv)
  sv : ∀ i, i < saved.length → Sl w (some ⟨(ss.getD i (0, 0)).1, 0, none⟩) 207 (ss.getD i (0, 0)).2 (marH r o (saved.getD i [])) ∧ (ss.getD i (0, 0)).1 ∉ S
  hbS : hb ∈ S
  bsS : ∀ b ∈ bs, b ∈ S
  a1S : ∀ x, a1 = some x → x.block ∈ S
  a2S : ∀ x, a2 = some x → x.block ∈ S
  hbbs : hb ∉ bs
  a1bs : ∀ x, a1 = some x → x.block ≠ hb ∧ x.block ∉ bs
  a2bs : ∀ x, a2 = some x → x.block ≠ hb ∧ x.block ∉ bs
  a12 : ∀ x y, a1 = some x → a2 = some y → x.block ≠ y.block
  Slt : ∀ k ∈ S, base ≤ k ∧ k < w.heap.size
  pos : 0 < all.length
  rt : Rt r o
section
variable {HT PT SU ST : Nat} {w w' : World} {base hb : Nat} {kind : Int} {r o : Nat} {all saved : List Bs} {bs : List Nat} {ss : List (Nat × Nat)} {a1 a2 : Option Addr} {c1 c2 : Nat} {S : List Nat}
theorem ownBlock_some {a : Option Addr} {n c k : Nat} (h : (Value.slice a n c).ownBlock = some k) : ∃ x, a = some x ∧ x.block = k := by
  cases a with
  | none => simp [Value.ownBlock] at h
  | some x => exact ⟨x, rfl, by simpa [Value.ownBlock] using h⟩
/-- blocks outside turn -/
theorem HI.keep0 (h : HI HT PT SU ST w base hb kind r o all saved bs ss a1 c1 a2 c2 S) (hf : Fr [] w w') : HI HT PT SU ST w' base hb kind r o all saved bs ss a1 c1 a2 c2 S :=
  ⟨hf.obj h.blk (by simp), h.bl, ownsRow_keep h.rowA hf (by simp), fun i hi => (h.hs i hi).keep hf (by simp), h.nodup, h.sl, ownsRow_keep h.rowS hf (by simp), fun i hi => ⟨(h.sv i hi).1.keep0 hf, (h.sv i hi).2⟩, h.hbS, h.bsS, h.a1S, h.a2S, h.hbbs, h.a1bs, h.a2bs, h.a12, fun k hk => ⟨(h.Slt k hk).1, Nat.lt_of_lt_of_le (h.Slt k hk).2 hf.size⟩, h.pos, h.rt⟩
theorem getD_set {α : Type} (l : List α) (i j : Nat) (v d : α) (hi : i < l.length) : (l.set i v).getD j d = if j = i then v else l.getD j d := by
  simp only [List.getD_eq_getElem?_getD, List.getElem?_set]
  by_cases h : i = j
  · subst h; simp [hi]
  · rw [if_neg h, if_neg (fun e => h e.symm)]
theorem nodup_getD {bs : List Nat} (h : bs.Nodup) {i j : Nat} (hi : i < bs.length) (hj : j < bs.length) (hne : i ≠ j) : bs.getD i 0 ≠ bs.getD j 0 := by
  simp only [List.getD_eq_getElem?_getD, List.getElem?_eq_getElem hi, List.getElem?_eq_getElem hj, Option.getD_some]
  rcases Nat.lt_or_gt_of_ne hne with h1 | h1
  · exact List.pairwise_iff_getElem.1 h i j hi hj h1
  · exact fun e => List.pairwise_iff_getElem.1 h j i hj hi h1 e.symm
theorem getD_mem {bs : List Nat} {i : Nat} (hi : i < bs.length) : bs.getD i 0 ∈ bs := by
  simp only [List.getD_eq_getElem?_getD, List.getElem?_eq_getElem hi, Option.getD_some]
  exact List.getElem_mem hi
/-- one hash turns -/
theorem HI.upd (h : HI HT PT SU ST w base hb kind r o all saved bs ss a1 c1 a2 c2 S) (i : Nat) (hi : i < all.length) (data : Bs) (hf : Fr [bs.getD i 0] w w') (hd : HsAt w' (bs.getD i 0) ST r o data) :
    HI HT PT SU ST w' base hb kind r o (all.set i data) saved bs ss a1 c1 a2 c2 S := by
  have hm := getD_mem (bs := bs) (i := i) (by rw [h.bl]; exact hi)
  have hl : (all.set i data).length = all.length := by simp
  refine ⟨?_, by rw [hl]; exact h.bl, ?_, ?_, h.nodup, h.sl, ?_, ?_, h.hbS, h.bsS, h.a1S, h.a2S, h.hbbs, h.a1bs, h.a2bs, h.a12, fun k hk => ⟨(h.Slt k hk).1, Nat.lt_of_lt_of_le (h.Slt k hk).2 hf.size⟩, by rw [hl]; exact h.pos, h.rt⟩
  · rw [hl]
    exact hf.obj h.blk (by simp; intro e; exact h.hbbs (e ▸ hm))
  · rw [hl]
    refine ownsRow_keep h.rowA hf (fun k hk => ?_)
    obtain ⟨x, hx, rfl⟩ := ownBlock_some hk
    simp
    intro e
    exact (h.a1bs x hx).2 (e ▸ hm)
  · intro j hj
    rw [hl] at hj
    rw [getD_set _ _ _ _ _ hi]
    by_cases e : j = i
    · subst e; rw [if_pos rfl]; exact hd
    · rw [if_neg e]
      exact (h.hs j hj).keep hf (by simp; exact nodup_getD h.nodup (by rw [h.bl]; exact hj) (by rw [h.bl]; exact hi) e)
  · refine ownsRow_keep h.rowS hf (fun k hk => ?_)
    obtain ⟨x, hx, rfl⟩ := ownBlock_some hk
    simp
    intro e
    exact (h.a2bs x hx).2 (e ▸ hm)
  · intro j hj
    refine ⟨(h.sv j hj).1.keep hf (fun x hx _ => ?_), (h.sv j hj).2⟩
    simp only [Option.some.injEq] at hx
    subst hx
    simp
    intro e
    exact (h.sv j hj).2 (e ▸ h.bsS _ hm)
end
end Go.Sha
end

section
namespace Go.Sha
open Go.RowKit
def blkOf (a : Option Addr) : List Nat := match a with | some x => [x.block] | none => []
theorem mem_blkOf {a : Option Addr} {k : Nat} : k ∈ blkOf a ↔ ∃ x, a = some x ∧ x.block = k := by
  cases a with
  | none => simp [blkOf]
  | some x => simp [blkOf, eq_comm]
theorem ownBlock_blkOf (a : Option Addr) (n c : Nat) : (Value.slice a n c).ownBlock.toList = blkOf a := by cases a <;> rfl
section
variable {HT PT SU ST : Nat} {w w' : World} {base hb : Nat} {kind : Int} {r o : Nat} {all saved : List Bs} {bs : List Nat} {ss : List (Nat × Nat)} {a1 a2 : Option Addr} {c1 c2 : Nat} {S : List Nat}
theorem getD_append_lt {α : Type} (l m : List α) (i : Nat) (d : α) (h : i < l.length) : (l ++ m).getD i d = l.getD i d := by
  simp [List.getD_eq_getElem?_getD, List.getElem?_append_left h]
theorem getD_append_eq {α : Type} (l : List α) (x d : α) : (l ++ [x]).getD l.length d = x := by
  simp [List.getD_eq_getElem?_getD]
theorem HI.lt_of (h : HI HT PT SU ST w base hb kind r o all saved bs ss a1 c1 a2 c2 S) {k : Nat} (hk : k ∈ S) : k < w.heap.size := (h.Slt k hk).2
theorem HI.push (h : HI HT PT SU ST w base hb kind r o all saved bs ss a1 c1 a2 c2 S) {wB wC : World} {g c1' : Nat} {a1' : Option Addr} {data : Bs} (hf : Fr [] w wB) (hH : HsAt wB g ST r o data) (hg : w.heap.size ≤ g) (hbase : base ≤ w.heap.size)
    (ho : wC.ownsRow base PT 1 (.slice a1' (all.length + 1) c1') (all.length + 1) (bs.map ptr ++ [ptr g])) (hgr : wB.grownBy wC (Value.slice a1 all.length c1).ownBlock) (ha : a1' = a1 ∨ a1' = some ⟨wB.heap.size, 0, none⟩) :
    HI HT PT SU ST (wC.setCell ⟨hb, 1, none⟩ (.slice a1' (all.length + 1) c1')) base hb kind r o (all ++ [data]) saved (bs ++ [g]) ss a1' c1' a2 c2 (g :: (blkOf a1' ++ S)) ∧ Fr S w (wC.setCell ⟨hb, 1, none⟩ (.slice a1' (all.length + 1) c1')) := by
  have hbl := h.lt_of h.hbS
  have hgl := hH.lt
  have hsz := hf.size
  have fBC : Fr (blkOf a1) wB wC := by
    rw [← ownBlock_blkOf a1 all.length c1]
    exact (Fr.refl _ _).grown hgr (fun k hk => by rw [hk]; exact .inr (by simp))
  have fCD : Fr [hb] wC (wC.setCell ⟨hb, 1, none⟩ (.slice a1' (all.length + 1) c1')) := (Fr.refl _ _).setCell _ _ (.inr (by simp))
  have hne1 : ∀ x, a1' = some x → x.block ≠ hb ∧ x.block ∉ bs ∧ x.block ≠ g ∧ (∀ y, a2 = some y → x.block ≠ y.block) := fun x hx => by
    rcases ha with rfl | rfl
    · refine ⟨(h.a1bs x hx).1, (h.a1bs x hx).2, ?_, fun y hy => h.a12 x y hx hy⟩
      have := h.lt_of (h.a1S x hx)
      omega
    · simp only [Option.some.injEq] at hx
      subst hx
      refine ⟨by simp only; omega, fun hm => ?_, by simp only; omega, fun y hy => ?_⟩
      · have := h.lt_of (h.bsS _ hm)
        simp only at this
        omega
      · have := h.lt_of (h.a2S y hy)
        simp only
        omega
  have hblkC : wC.heap[hb]? = some (.cells #[.int .i64 kind, .slice a1 all.length c1, .slice a2 saved.length c2] HT (0, 0)) := by
    refine fBC.obj (hf.obj h.blk (by simp)) (fun hm => ?_)
    obtain ⟨x, hx, e⟩ := mem_blkOf.1 hm
    exact (h.a1bs x hx).1 e
  have hfar : ∀ k, k < wB.heap.size → k ∉ blkOf a1 → k ≠ hb → (wC.setCell ⟨hb, 1, none⟩ (.slice a1' (all.length + 1) c1')).heap[k]? = wB.heap[k]? := fun k hk h1 h2 => by
    rw [fCD.block k (Nat.lt_of_lt_of_le hk fBC.size) (by simpa using h2), fBC.block k hk h1]
  have fBD : Fr (hb :: blkOf a1) wB (wC.setCell ⟨hb, 1, none⟩ (.slice a1' (all.length + 1) c1')) :=
    ⟨fCD.os.trans fBC.os, fCD.tape.trans fBC.tape, fCD.output.trans fBC.output, Nat.le_trans fBC.size fCD.size, fun k hk hs => hfar k hk (fun x => hs (by simp [x])) (fun x => hs (by simp [x]))⟩
  have hbsa : ∀ b ∈ bs, b ∉ hb :: blkOf a1 := fun b hb' hm => by
    rcases List.mem_cons.1 hm with e | hm
    · exact h.hbbs (e ▸ hb')
    · obtain ⟨x, hx, e⟩ := mem_blkOf.1 hm
      exact (h.a1bs x hx).2 (e ▸ hb')
  have hga : g ∉ hb :: blkOf a1 := fun hm => by
    rcases List.mem_cons.1 hm with e | hm
    · omega
    · obtain ⟨x, hx, e⟩ := mem_blkOf.1 hm
      have := h.lt_of (h.a1S x hx)
      omega
  refine ⟨⟨?_, ?_, ?_, ?_, ?_, h.sl, ?_, ?_, ?_, ?_, ?_, ?_, ?_, ?_, ?_, ?_, ?_, ?_, h.rt⟩, ?_⟩
  · rw [Go.Sha.heap_setCell_same hblkC]
    simp
  · simp [h.bl]
  · rw [show (all ++ [data]).length = all.length + 1 by simp, List.map_append]
    refine ownsRow_keep ho fCD (fun k hk => ?_)
    obtain ⟨x, hx, rfl⟩ := ownBlock_some hk
    simpa using (hne1 x hx).1
  · intro i hi
    simp only [List.length_append, List.length_cons, List.length_nil] at hi
    by_cases e : i < all.length
    · rw [getD_append_lt _ _ _ _ e, getD_append_lt _ _ _ _ (by rw [h.bl]; exact e)]
      exact ((h.hs i e).keep hf (by simp)).keep fBD (hbsa _ (getD_mem (by rw [h.bl]; exact e)))
    · obtain rfl : i = all.length := by omega
      rw [getD_append_eq]
      have : (bs ++ [g]).getD all.length 0 = g := by rw [← h.bl]; exact getD_append_eq bs g 0
      rw [this]
      exact hH.keep fBD hga
  · rw [List.nodup_append]
    refine ⟨h.nodup, by simp, fun a ha' b hb' => ?_⟩
    simp only [List.mem_cons, List.not_mem_nil, or_false] at hb'
    subst hb'
    have := h.lt_of (h.bsS a ha')
    omega
  · refine ownsRow_keep (ownsRow_keep h.rowS hf (by simp)) fBD (fun k hk => ?_)
    obtain ⟨x, hx, rfl⟩ := ownBlock_some hk
    intro hm
    rcases List.mem_cons.1 hm with e | hm
    · exact (h.a2bs x hx).1 e
    · obtain ⟨y, hy, e⟩ := mem_blkOf.1 hm
      exact h.a12 y x hy hx e
  · intro i hi
    have hs := h.sv i hi
    have hlt := hs.1.lt (x := ⟨(ss.getD i (0, 0)).1, 0, none⟩) rfl (by decide)
    simp only at hlt
    refine ⟨(hs.1.keep0 hf).keep fBD (fun x hx _ hm => ?_), fun hm => ?_⟩
    · simp only [Option.some.injEq] at hx
      subst hx
      rcases List.mem_cons.1 hm with e | hm
      · simp only at e
        exact hs.2 (e ▸ h.hbS)
      · obtain ⟨y, hy, e⟩ := mem_blkOf.1 hm
        simp only at e
        exact hs.2 (e ▸ h.a1S y hy)
    · rcases List.mem_cons.1 hm with e | hm
      · omega
      · rcases List.mem_append.1 hm with hm | hm
        · obtain ⟨y, hy, e⟩ := mem_blkOf.1 hm
          rcases ha with rfl | rfl
          · exact hs.2 (e ▸ h.a1S y hy)
          · simp only [Option.some.injEq] at hy
            subst hy
            simp only at e
            omega
        · exact hs.2 hm
  · simp [h.hbS]
  · intro b hb'
    rcases List.mem_append.1 hb' with hb' | hb'
    · simp [h.bsS b hb']
    · simp only [List.mem_cons, List.not_mem_nil, or_false] at hb'
      simp [hb']
  · intro x hx
    have : x.block ∈ blkOf a1' := mem_blkOf.2 ⟨x, hx, rfl⟩
    simp [this]
  · intro x hx
    simp [h.a2S x hx]
  · simp only [List.mem_append, List.mem_cons, List.not_mem_nil, or_false, not_or]
    exact ⟨h.hbbs, by omega⟩
  · intro x hx
    refine ⟨(hne1 x hx).1, ?_⟩
    simp only [List.mem_append, List.mem_cons, List.not_mem_nil, or_false, not_or]
    exact ⟨(hne1 x hx).2.1, (hne1 x hx).2.2.1⟩
  · intro x hx
    refine ⟨(h.a2bs x hx).1, ?_⟩
    simp only [List.mem_append, List.mem_cons, List.not_mem_nil, or_false, not_or]
    refine ⟨(h.a2bs x hx).2, ?_⟩
    have := h.lt_of (h.a2S x hx)
    omega
  · exact fun x y hx hy => (hne1 x hx).2.2.2 y hy
  · intro k hk
    rcases List.mem_cons.1 hk with e | hk
    · subst e
      exact ⟨by omega, Nat.lt_of_lt_of_le hgl fBD.size⟩
    · rcases List.mem_append.1 hk with hk | hk
      · obtain ⟨x, hx, rfl⟩ := mem_blkOf.1 hk
        have := ownsRow_lt ho (show (Value.slice a1' (all.length + 1) c1').ownBlock = some x.block by rw [hx]; rfl)
        exact ⟨this.1, Nat.lt_of_lt_of_le this.2 fCD.size⟩
      · exact ⟨(h.Slt k hk).1, Nat.lt_of_lt_of_le (h.Slt k hk).2 (Nat.le_trans hsz fBD.size)⟩
  · simp
  · refine (hf.mono (T := S) (by simp)).trans (fBD.mono (fun k _ hk => ?_))
    rcases List.mem_cons.1 hk with e | hk
    · exact e ▸ h.hbS
    · obtain ⟨x, hx, e⟩ := mem_blkOf.1 hk
      exact e ▸ h.a1S x hx
theorem HI.addSaved (h : HI HT PT SU ST w base hb kind r o all saved bs ss a1 c1 a2 c2 S) {wB wC : World} {g c c2' : Nat} {a2' : Option Addr} {data : Bs} (hf : Fr [] w wB) (hH : Sl wB (some ⟨g, 0, none⟩) 207 c (marH r o data)) (hg : w.heap.size ≤ g)
    (ho : wC.ownsRow base SU 1 (.slice a2' (saved.length + 1) c2') (saved.length + 1) (ss.map slv ++ [slv (g, c)])) (hgr : wB.grownBy wC (Value.slice a2 saved.length c2).ownBlock) (ha : a2' = a2 ∨ a2' = some ⟨wB.heap.size, 0, none⟩) :
    HI HT PT SU ST (wC.setCell ⟨hb, 2, none⟩ (.slice a2' (saved.length + 1) c2')) base hb kind r o all (saved ++ [data]) bs (ss ++ [(g, c)]) a1 c1 a2' c2' (blkOf a2' ++ S) ∧ Fr S w (wC.setCell ⟨hb, 2, none⟩ (.slice a2' (saved.length + 1) c2')) := by
  have hbl := h.lt_of h.hbS
  have hgl : g < wB.heap.size := hH.lt (x := ⟨g, 0, none⟩) rfl (by decide)
  have hsz := hf.size
  have fBC : Fr (blkOf a2) wB wC := by
    rw [← ownBlock_blkOf a2 saved.length c2]
    exact (Fr.refl _ _).grown hgr (fun k hk => by rw [hk]; exact .inr (by simp))
  have fCD : Fr [hb] wC (wC.setCell ⟨hb, 2, none⟩ (.slice a2' (saved.length + 1) c2')) := (Fr.refl _ _).setCell _ _ (.inr (by simp))
  have hne1 : ∀ x, a2' = some x → x.block ≠ hb ∧ x.block ∉ bs ∧ x.block ≠ g ∧ (∀ y, a1 = some y → y.block ≠ x.block) := fun x hx => by
    rcases ha with rfl | rfl
    · refine ⟨(h.a2bs x hx).1, (h.a2bs x hx).2, ?_, fun y hy => h.a12 y x hy hx⟩
      have := h.lt_of (h.a2S x hx)
      omega
    · simp only [Option.some.injEq] at hx
      subst hx
      refine ⟨by simp only; omega, fun hm => ?_, by simp only; omega, fun y hy => ?_⟩
      · have := h.lt_of (h.bsS _ hm)
        simp only at this
        omega
      · have := h.lt_of (h.a1S y hy)
        simp only
        omega
  have hblkC : wC.heap[hb]? = some (.cells #[.int .i64 kind, .slice a1 all.length c1, .slice a2 saved.length c2] HT (0, 0)) := by
    refine fBC.obj (hf.obj h.blk (by simp)) (fun hm => ?_)
    obtain ⟨x, hx, e⟩ := mem_blkOf.1 hm
    exact (h.a2bs x hx).1 e
  have fBD : Fr (hb :: blkOf a2) wB (wC.setCell ⟨hb, 2, none⟩ (.slice a2' (saved.length + 1) c2')) :=
    ⟨fCD.os.trans fBC.os, fCD.tape.trans fBC.tape, fCD.output.trans fBC.output, Nat.le_trans fBC.size fCD.size, fun k hk hs => by
      rw [fCD.block k (Nat.lt_of_lt_of_le hk fBC.size) (fun x => hs (by simp at x; simp [x])), fBC.block k hk (fun x => hs (by simp [x]))]⟩
  have hbsa : ∀ b ∈ bs, b ∉ hb :: blkOf a2 := fun b hb' hm => by
    rcases List.mem_cons.1 hm with e | hm
    · exact h.hbbs (e ▸ hb')
    · obtain ⟨x, hx, e⟩ := mem_blkOf.1 hm
      exact (h.a2bs x hx).2 (e ▸ hb')
  have hga : g ∉ hb :: blkOf a2 := fun hm => by
    rcases List.mem_cons.1 hm with e | hm
    · omega
    · obtain ⟨x, hx, e⟩ := mem_blkOf.1 hm
      have := h.lt_of (h.a2S x hx)
      omega
  refine ⟨⟨?_, h.bl, ?_, ?_, h.nodup, ?_, ?_, ?_, ?_, ?_, ?_, ?_, h.hbbs, h.a1bs, ?_, ?_, ?_, h.pos, h.rt⟩, ?_⟩
  · rw [Go.Sha.heap_setCell_same hblkC]
    simp
  · refine ownsRow_keep (ownsRow_keep h.rowA hf (by simp)) fBD (fun k hk => ?_)
    obtain ⟨x, hx, rfl⟩ := ownBlock_some hk
    intro hm
    rcases List.mem_cons.1 hm with e | hm
    · exact (h.a1bs x hx).1 e
    · obtain ⟨y, hy, e⟩ := mem_blkOf.1 hm
      exact h.a12 x y hx hy e.symm
  · exact fun i hi => ((h.hs i hi).keep hf (by simp)).keep fBD (hbsa _ (getD_mem (by rw [h.bl]; exact hi)))
  · simp [h.sl]
  · rw [show (saved ++ [data]).length = saved.length + 1 by simp, List.map_append]
    refine ownsRow_keep ho fCD (fun k hk => ?_)
    obtain ⟨x, hx, rfl⟩ := ownBlock_some hk
    simpa using (hne1 x hx).1
  · intro i hi
    simp only [List.length_append, List.length_cons, List.length_nil] at hi
    by_cases e : i < saved.length
    · rw [getD_append_lt _ _ _ _ e, getD_append_lt _ _ _ _ (by rw [h.sl]; exact e)]
      have hs := h.sv i e
      have hlt := hs.1.lt (x := ⟨(ss.getD i (0, 0)).1, 0, none⟩) rfl (by decide)
      simp only at hlt
      refine ⟨(hs.1.keep0 hf).keep fBD (fun x hx _ hm => ?_), fun hm => ?_⟩
      · simp only [Option.some.injEq] at hx
        subst hx
        rcases List.mem_cons.1 hm with e | hm
        · simp only at e
          exact hs.2 (e ▸ h.hbS)
        · obtain ⟨y, hy, e⟩ := mem_blkOf.1 hm
          simp only at e
          exact hs.2 (e ▸ h.a2S y hy)
      · rcases List.mem_append.1 hm with hm | hm
        · obtain ⟨y, hy, e⟩ := mem_blkOf.1 hm
          rcases ha with rfl | rfl
          · exact hs.2 (e ▸ h.a2S y hy)
          · simp only [Option.some.injEq] at hy
            subst hy
            simp only at e
            omega
        · exact hs.2 hm
    · obtain rfl : i = saved.length := by omega
      have e2 : (ss ++ [(g, c)]).getD saved.length (0, 0) = (g, c) := by rw [← h.sl]; exact getD_append_eq ss (g, c) (0, 0)
      rw [getD_append_eq, e2]
      refine ⟨hH.keep fBD (fun x hx _ hm => ?_), fun hm => ?_⟩
      · simp only [Option.some.injEq] at hx
        subst hx
        exact hga hm
      · rcases List.mem_append.1 hm with hm | hm
        · obtain ⟨y, hy, e⟩ := mem_blkOf.1 hm
          exact (hne1 y hy).2.2.1 e
        · have := h.lt_of hm
          simp only at this
          omega
  · simp [h.hbS]
  · intro b hb'
    simp [h.bsS b hb']
  · intro x hx
    simp [h.a1S x hx]
  · intro x hx
    have : x.block ∈ blkOf a2' := mem_blkOf.2 ⟨x, hx, rfl⟩
    simp [this]
  · exact fun x hx => ⟨(hne1 x hx).1, (hne1 x hx).2.1⟩
  · exact fun x y hx hy => (hne1 y hy).2.2.2 x hx
  · intro k hk
    rcases List.mem_append.1 hk with hk | hk
    · obtain ⟨x, hx, rfl⟩ := mem_blkOf.1 hk
      have := ownsRow_lt ho (show (Value.slice a2' (saved.length + 1) c2').ownBlock = some x.block by rw [hx]; rfl)
      exact ⟨this.1, Nat.lt_of_lt_of_le this.2 fCD.size⟩
    · exact ⟨(h.Slt k hk).1, Nat.lt_of_lt_of_le (h.Slt k hk).2 (Nat.le_trans hsz fBD.size)⟩
  · refine (hf.mono (T := S) (by simp)).trans (fBD.mono (fun k _ hk => ?_))
    rcases List.mem_cons.1 hk with e | hk
    · exact e ▸ h.hbS
    · obtain ⟨x, hx, e⟩ := mem_blkOf.1 hk
      exact e ▸ h.a2S x hx
end
end Go.Sha
end

section
namespace Go.Sha
def rOf (k : Nat) : Nat := [144, 136, 104, 72, 136].getD k 136
def oOf (k : Nat) : Nat := [28, 32, 48, 64, 32].getD k 32
theorem rt_of : ∀ k, k < 5 → Rt (rOf k) (oOf k)
  | 0, _ => ⟨by decide, by decide, by decide, by decide⟩
  | 1, _ => ⟨by decide, by decide, by decide, by decide⟩
  | 2, _ => ⟨by decide, by decide, by decide, by decide⟩
  | 3, _ => ⟨by decide, by decide, by decide, by decide⟩
  | 4, _ => ⟨by decide, by decide, by decide, by decide⟩
  | k + 5, h => absurd h (by omega)
theorem ro_of : ∀ k, k < 5 → 200 - 2 * oOf k = rOf k := by decide
/-- a number modulo five -/
def k5 (z : Int) : Nat := (z % 5).toNat
theorem k5_lt (z : Int) : k5 z < 5 := by unfold k5; omega
theorem k5_int (z : Int) : z % 5 = (k5 z : Int) := by unfold k5; omega
end Go.Sha
namespace Go.Proofs.Ytkijnpjefccepaa
open Go.ChangeShapes Go.WideShapes Go.ChangeAt Go.RowKit Go.Sha
theorem tmod_add_emod' (n m : Int) (hm : 0 < m) : (n.tmod m + m) % m = n % m := by
  rw [Int.add_emod_right]
  rw [Int.tmod_eq_emod]
  split
  · simp
  · have h : ((m.natAbs : Nat) : Int) = m := by omega
    rw [h, Int.sub_emod_right, Int.emod_emod_of_dvd _ (Int.dvd_refl m)]
theorem place_any (n m : Int) (w : World) (h0 : 0 < m) (h1 : m ≤ 4611686018427387904) :
    Calls Try.prog 36 #[.int .i64 n, .int .i64 m] w fun e w' => e = .returned (.int .i64 (n % m)) ∧ w' = w := by
  have ht1 := Int.tmod_lt_of_pos n h0
  have ht2 : -m < n.tmod m := Int.lt_tmod_of_pos n h0
  have hm : ¬ m = 0 := by omega
  have hmz : (m == 0) = false := by rw [beq_eq_false_iff_ne]; exact hm
  go_enter Try.func36, Try.ntmps36
  go_wp2
  go_ret
  exact ⟨ret_int (tmod_add_emod' n m h0), rfl⟩
theorem place_nat (n m : Int) (k : Nat) (w : World) (h0 : 0 < m) (h1 : m ≤ 4611686018427387904) (hk : n % m = (k : Int)) :
    Calls Try.prog 36 #[.int .i64 n, .int .i64 m] w fun e w' => e = .returned (.int .i64 (k : Int)) ∧ w' = w := by
  have := place_any n m w h0 h1
  rwa [hk] at this
theorem copied_any (a0 : Option Addr) (n c : Nat) (l : Bs) (w : World) (h : Sl w a0 n c l) (hn : n ≤ 281474976710656) :
    Calls Try.prog 40 #[.slice a0 n c] w (RetO 5 l w) := by
  obtain ⟨i0, hi, hz0, hz1, hz2⟩ := info_parts info5
  go_enter Try.func40, Try.ntmps40
  go_wp2_with (at_builtin; refine wpList_append_srcC _ rfl _ _ 22 22 rfl w.heap.size 5 i0 (.int .u8 0) 1 1 Try.underlying22 hi hz0 hz1 hz2 rfl none 0 0 [] rfl (World.ownsRow_nil _ _ _ _) _ n (l.map bv) rfl (h.src Try.underlying22) ?c1 ?c2 ?c3 ?_)
  case c1 => unfold maxLen; omega
  case c2 => exact fit_new (by omega)
  case c3 => exact Nat.le_refl _
  intro a' c' w' ho hg
  go_wp2
  go_ret
  have hl := h.len
  subst hl
  exact ⟨a', c', rfl, ho, (Fr.refl _ _).grown hg (by simp [Value.ownBlock])⟩
theorem copied_n (a0 : Option Addr) (n c : Nat) (l : Bs) (w : World) (h : Sl w a0 n c l) (hn : n ≤ 281474976710656) :
    Calls Try.prog 40 #[.slice a0 n c] w fun e w' => ∃ a c', e = .returned (.slice a n c') ∧ Ow w' w.heap.size 5 a c' l ∧ Fr [] w w' := by
  have := copied_any a0 n c l w h hn
  unfold RetO at this
  rwa [h.len] at this
/-- a pointer to a new hash -/
def RetH (r o : Nat) (w : World) (e : Ending) (w' : World) : Prop := ∃ g, e = .returned (.pointer (some ⟨g, 0, none⟩)) ∧ w.heap.size ≤ g ∧ g < w'.heap.size ∧ HsAt w' g 138 r o [] ∧ Fr [] w w'

end Go.Proofs.Ytkijnpjefccepaa
end

section
namespace Go.Sha
open Go.RowKit
/-- what a call returns -/
structure Res where
  n : Int
  data : Bs
  ok : Bool
  pan : Bool
structure Actn where
  k : Int
  at_ : Int
  pick : Int
  data : Bs
/-- a number modulo another one -/
def ix (z : Int) (n : Nat) : Nat := (z % (n : Int)).toNat
theorem ix_lt (z : Int) (n : Nat) (h : 0 < n) : ix z n < n := by
  unfold ix
  have h1 := Int.emod_nonneg z (show (n : Int) ≠ 0 by omega)
  have h2 := Int.emod_lt_of_pos z (show (0 : Int) < n by omega)
  omega
theorem ix_int (z : Int) (n : Nat) (h : 0 < n) : z % (n : Int) = (ix z n : Int) := by
  unfold ix
  have h1 := Int.emod_nonneg z (show (n : Int) ≠ 0 by omega)
  omega
/-- the hash of bytes -/
def hsum (r o : Nat) (d : Bs) : Bs := xof r o 6 d o
theorem hsum_length (r o : Nat) (d : Bs) : (hsum r o d).length = o := xof_length _ _ _ _ _
end Go.Sha
namespace Go.Proofs.Ytkijnpjefccepaa
open Go.ChangeShapes Go.WideShapes Go.ChangeAt Go.RowKit Go.Sha
theorem sizeRT : (Try.prog.info? 32).map (·.size) = some 4 := by kernel_rfl
theorem set_getD {α : Type} (l : List α) (i : Nat) (d : α) : l.set i (l.getD i d) = l := by
  by_cases h : i < l.length
  · apply List.ext_getElem?
    intro j
    rw [List.getElem?_set]
    by_cases e : i = j
    · subst e; simp [h]
    · rw [if_neg e]
  · rw [List.set_eq_of_length_le (by omega)]
theorem Fr_trans_new {S T : List Nat} {w w1 w2 : World} (h : Fr S w w1) (k : Fr T w1 w2) (hT : ∀ x ∈ T, w.heap.size ≤ x) : Fr S w w2 :=
  ⟨k.os.trans h.os, k.tape.trans h.tape, k.output.trans h.output, Nat.le_trans h.size k.size, fun i hi hs => (k.block i (Nat.lt_of_lt_of_le hi h.size) (fun hx => by have := hT i hx; omega)).trans (h.block i hi hs)⟩
end Go.Proofs.Ytkijnpjefccepaa
end

section
namespace Go.Sha
open Go.RowKit
/-- a list of calls in memory -/
structure ActsAt (w : World) (a : Option Addr) (n c : Nat) (xs : List Actn) : Prop where
  len : xs.length = n
  cap : n ≤ c
  max : c ≤ maxLen
  cel : n = 0 ∨ ∃ b o, a = some ⟨b, o, none⟩ ∧ ∀ i, i < n → ∃ ad nd cd, w.cell? ⟨b, o + 4 * i, none⟩ = some (.int .i64 (xs.getD i ⟨0, 0, 0, []⟩).k) ∧ w.cell? ⟨b, o + 4 * i + 1, none⟩ = some (.int .i64 (xs.getD i ⟨0, 0, 0, []⟩).at_) ∧ w.cell? ⟨b, o + 4 * i + 2, none⟩ = some (.int .i64 (xs.getD i ⟨0, 0, 0, []⟩).pick) ∧ w.cell? ⟨b, o + 4 * i + 3, none⟩ = some (.slice ad nd cd) ∧ Sl w ad nd cd (xs.getD i ⟨0, 0, 0, []⟩).data ∧ nd ≤ 140737488351232
theorem ActsAt.keep {S : List Nat} {w w' : World} {a : Option Addr} {n c : Nat} {xs : List Actn} (h : ActsAt w a n c xs) (hf : Fr S w w') (hS : ∀ k ∈ S, w.heap.size ≤ k) : ActsAt w' a n c xs := by
  refine ⟨h.len, h.cap, h.max, ?_⟩
  rcases h.cel with h0 | ⟨b, o, rfl, hc⟩
  · exact .inl h0
  · refine .inr ⟨b, o, rfl, fun i hi => ?_⟩
    obtain ⟨ad, nd, cd, h1, h2, h3, h4, h5, h6⟩ := hc i hi
    have hb : b ∉ S := fun hm => by
      have := World.block_lt_of_cell? w _ h1
      have := hS b hm
      simp only at *
      omega
    exact ⟨ad, nd, cd, hf.cell h1 hb, hf.cell h2 hb, hf.cell h3 hb, hf.cell h4 hb, h5.keep hf (fun x hx hn hm => by have := h5.lt hx hn; have := hS _ hm; omega), h6⟩
/-- a result's cells -/
def resCells (p : Res × (Option Addr × Nat)) : List Value := [.int .i64 p.1.n, .slice p.2.1 p.1.data.length p.2.2, .bool p.1.ok, .bool p.1.pan]
/-- a list of results in memory of their own: each has its own block -/
structure RsI (RT U : Nat) (w : World) (base : Nat) (S : List Nat) (a : Option Addr) (n c : Nat) (rs : List Res) (vs : List (Option Addr × Nat)) : Prop where
  len : rs.length = n
  vlen : vs.length = n
  row : w.ownsRow base RT 4 (.slice a n c) n ((rs.zip vs).flatMap resCells)
  rowS : ∀ x, a = some x → x.block ∉ S
  own : ∀ i, i < n → Ow w base U (vs.getD i (none, 0)).1 (vs.getD i (none, 0)).2 (rs.getD i ⟨0, [], false, false⟩).data
  ownS : ∀ i, i < n → ∀ x, (vs.getD i (none, 0)).1 = some x → x.block ∉ S ∧ (∀ y, a = some y → x.block ≠ y.block)
  ne : ∀ i j, i < n → j < n → i ≠ j → ∀ x y, (vs.getD i (none, 0)).1 = some x → (vs.getD j (none, 0)).1 = some y → x.block ≠ y.block
theorem RsI.nil (RT U : Nat) (w : World) (base : Nat) (S : List Nat) : RsI RT U w base S none 0 0 [] [] :=
  ⟨rfl, rfl, World.ownsRow_nil _ _ _ _, (fun x hx => by cases hx), (fun i hi => by omega), (fun i hi => by omega), (fun i j hi => by omega)⟩
/-- a call of the script turns only the blocks of S -/
theorem RsI.keep {RT U : Nat} {w w' : World} {base : Nat} {S S' : List Nat} {a : Option Addr} {n c : Nat} {rs : List Res} {vs : List (Option Addr × Nat)} (h : RsI RT U w base S a n c rs vs) (hf : Fr S w w') (hS : ∀ k ∈ S', k ∈ S ∨ w.heap.size ≤ k) : RsI RT U w' base S' a n c rs vs := by
  have hout : ∀ k, k < w.heap.size → k ∉ S → k ∉ S' := fun k hk h1 h2 => by
    rcases hS k h2 with h3 | h3
    · exact h1 h3
    · omega
  refine ⟨h.len, h.vlen, ownsRow_keep h.row hf (fun k hk => ?_), fun x hx => ?_, fun i hi => ?_, fun i hi x hx => ⟨?_, (h.ownS i hi x hx).2⟩, h.ne⟩
  · obtain ⟨x, hx, rfl⟩ := ownBlock_some hk
    exact h.rowS x hx
  · exact hout _ (ownsRow_lt h.row (show (Value.slice a n c).ownBlock = some x.block by rw [hx]; rfl)).2 (h.rowS x hx)
  · have ho := h.own i hi
    obtain ⟨h1, h2⟩ := ho
    refine ⟨h1, ?_⟩
    rcases h2 with h2 | ⟨g, cap, cur, hv, hg, hh, r⟩
    · exact .inl h2
    · refine .inr ⟨g, cap, cur, hv, hg, hf.obj hh ?_, r⟩
      simp only [Value.slice.injEq] at hv
      exact (h.ownS i hi ⟨g, 0, none⟩ hv.1).1
  · have hb := h.own i hi
    rw [hx] at hb
    exact hout _ hb.block.2.2.2 (h.ownS i hi x hx).1
theorem zip_snoc {α β : Type} (l : List α) (m : List β) (x : α) (y : β) (h : l.length = m.length) : (l ++ [x]).zip (m ++ [y]) = l.zip m ++ [(x, y)] := by
  rw [List.zip_append h]
  rfl
/-- one result more -/
theorem RsI.push {RT U : Nat} {w wB wC : World} {base : Nat} {S : List Nat} {a a' : Option Addr} {n c c' : Nat} {rs : List Res} {vs : List (Option Addr × Nat)} (h : RsI RT U w base S a n c rs vs) {x : Res} {v : Option Addr × Nat} (hf : Fr [] w wB) (hS : ∀ k ∈ S, k < w.heap.size)
    (hO : Ow w base U v.1 v.2 x.data) (hv : ∀ y, v.1 = some y → y.block ∉ S ∧ (∀ z, a = some z → y.block ≠ z.block) ∧ ∀ i, i < n → ∀ z, (vs.getD i (none, 0)).1 = some z → y.block ≠ z.block)
    (ho : wC.ownsRow base RT 4 (.slice a' (n + 1) c') (n + 1) ((rs.zip vs).flatMap resCells ++ resCells (x, v))) (hgr : wB.grownBy wC (Value.slice a n c).ownBlock) (ha : a' = a ∨ a' = some ⟨wB.heap.size, 0, none⟩) :
    RsI RT U wC base S a' (n + 1) c' (rs ++ [x]) (vs ++ [v]) := by
  have fBC : Fr (blkOf a) wB wC := by
    rw [← ownBlock_blkOf a n c]
    exact (Fr.refl _ _).grown hgr (fun k hk => by rw [hk]; exact .inr (by simp))
  have hsz := hf.size
  have keepOw : ∀ {ad : Option Addr} {cd : Nat} {l : Bs}, Ow w base U ad cd l → (∀ y, ad = some y → ∀ z, a = some z → y.block ≠ z.block) → Ow wC base U ad cd l := fun {ad cd l} hw hne => by
    obtain ⟨h1, h2⟩ := hw
    refine ⟨h1, ?_⟩
    rcases h2 with h2 | ⟨g, cap, cur, hvv, hg, hh, r⟩
    · exact .inl h2
    · refine .inr ⟨g, cap, cur, hvv, hg, fBC.obj (hf.obj hh (by simp)) (fun hm => ?_), r⟩
      simp only [Value.slice.injEq] at hvv
      obtain ⟨z, hz, e⟩ := mem_blkOf.1 hm
      exact hne ⟨g, 0, none⟩ hvv.1 z hz e.symm
  have hlt : ∀ {ad : Option Addr} {cd : Nat} {l : Bs}, Ow w base U ad cd l → ∀ y, ad = some y → y.block < w.heap.size := fun {ad cd l} hw y hy => by
    subst hy
    exact hw.block.2.2.2
  have hold : ∀ i, i < n → (vs ++ [v]).getD i (none, 0) = vs.getD i (none, 0) ∧ (rs ++ [x]).getD i ⟨0, [], false, false⟩ = rs.getD i ⟨0, [], false, false⟩ := fun i hi => ⟨getD_append_lt _ _ _ _ (by rw [h.vlen]; exact hi), getD_append_lt _ _ _ _ (by rw [h.len]; exact hi)⟩
  have hnew : (vs ++ [v]).getD n (none, 0) = v ∧ (rs ++ [x]).getD n ⟨0, [], false, false⟩ = x := ⟨by rw [← h.vlen]; exact getD_append_eq _ _ _, by rw [← h.len]; exact getD_append_eq _ _ _⟩
  have hrow : ∀ y, a' = some y → y.block ∉ S := fun y hy => by
    rcases ha with rfl | rfl
    · exact h.rowS y hy
    · simp only [Option.some.injEq] at hy
      subst hy
      intro hm
      have := hS _ hm
      simp only at this
      omega
  have hnr : ∀ {ad : Option Addr} {cd : Nat} {l : Bs}, Ow w base U ad cd l → (∀ y, ad = some y → ∀ z, a = some z → y.block ≠ z.block) → ∀ y, ad = some y → ∀ z, a' = some z → y.block ≠ z.block := fun {ad cd l} hw hne y hy z hz => by
    rcases ha with rfl | rfl
    · exact hne y hy z hz
    · simp only [Option.some.injEq] at hz
      subst hz
      have := hlt hw y hy
      simp only
      omega
  refine ⟨by simp [h.len], by simp [h.vlen], ?_, hrow, fun i hi => ?_, fun i hi y hy => ?_, fun i j hi hj hij y z hy hz => ?_⟩
  · rw [zip_snoc _ _ _ _ (by rw [h.len, h.vlen]), List.flatMap_append]
    simpa using ho
  · by_cases e : i < n
    · rw [(hold i e).1, (hold i e).2]
      exact keepOw (h.own i e) (fun y hy => (h.ownS i e y hy).2)
    · obtain rfl : i = n := by omega
      rw [hnew.1, hnew.2]
      exact keepOw hO (fun y hy => (hv y hy).2.1)
  · by_cases e : i < n
    · rw [(hold i e).1] at hy
      exact ⟨(h.ownS i e y hy).1, hnr (h.own i e) (fun y hy => (h.ownS i e y hy).2) y hy⟩
    · obtain rfl : i = n := by omega
      rw [hnew.1] at hy
      exact ⟨(hv y hy).1, hnr hO (fun y hy => (hv y hy).2.1) y hy⟩
  · by_cases e1 : i < n
    · by_cases e2 : j < n
      · rw [(hold i e1).1] at hy
        rw [(hold j e2).1] at hz
        exact h.ne i j e1 e2 hij y z hy hz
      · obtain rfl : j = n := by omega
        rw [(hold i e1).1] at hy
        rw [hnew.1] at hz
        exact fun e => (hv z hz).2.2 i e1 y hy e.symm
    · obtain rfl : i = n := by omega
      rw [hnew.1] at hy
      by_cases e2 : j < i
      · rw [(hold j e2).1] at hz
        exact (hv y hy).2.2 j e2 z hz
      · omega
theorem flatMap_get4 {α β : Type} (f : α → List β) (hf : ∀ x, (f x).length = 4) (l : List α) (i j : Nat) (hj : j < 4) : (l.flatMap f)[4 * i + j]? = (l[i]?).bind fun x => (f x)[j]? := by
  induction l generalizing i with
  | nil => simp
  | cons x l ih =>
    rw [List.flatMap_cons]
    cases i with
    | zero => rw [List.getElem?_append_left (by rw [hf]; omega)]; simp
    | succ i => rw [List.getElem?_append_right (by rw [hf]; omega), hf, show 4 * (i + 1) + j - 4 = 4 * i + j by omega, ih]; simp
theorem resCells_len (p : Res × (Option Addr × Nat)) : (resCells p).length = 4 := rfl
/-- the cells of a result -/
theorem RsI.cells {RT U : Nat} {w : World} {base : Nat} {S : List Nat} {a : Option Addr} {n c : Nat} {rs : List Res} {vs : List (Option Addr × Nat)} (h : RsI RT U w base S a n c rs vs) (hn : 0 < n) :
    ∃ g, a = some ⟨g, 0, none⟩ ∧ n ≤ c ∧ c ≤ maxLen ∧ ∀ i, i < n → ∀ j, j < 4 → w.cell? ⟨g, 4 * i + j, none⟩ = (resCells (rs.getD i ⟨0, [], false, false⟩, vs.getD i (none, 0)))[j]? := by
  rcases h.row.2 with ⟨_, h0⟩ | ⟨g, cap, cur, hv, hb', hg, hnn, hm, hs, ht⟩
  · omega
  · simp only [Value.slice.injEq] at hv
    obtain ⟨rfl, _, rfl⟩ := hv
    refine ⟨g, rfl, hnn, hm, fun i hi j hj => ?_⟩
    have e1 : ((rs.zip vs).flatMap resCells)[4 * i + j]? = (resCells (rs.getD i ⟨0, [], false, false⟩, vs.getD i (none, 0)))[j]? := by
      have e0 : (rs.zip vs)[i]? = some (rs.getD i ⟨0, [], false, false⟩, vs.getD i (none, 0)) := by
        rw [List.getElem?_zip_eq_some]
        simp [List.getD_eq_getElem?_getD, List.getElem?_eq_getElem (show i < rs.length by rw [h.len]; exact hi), List.getElem?_eq_getElem (show i < vs.length by rw [h.vlen]; exact hi)]
      rw [flatMap_get4 resCells resCells_len _ _ _ hj, e0]
      rfl
    have e2 : (resCells (rs.getD i ⟨0, [], false, false⟩, vs.getD i (none, 0)))[j]? = some ((resCells (rs.getD i ⟨0, [], false, false⟩, vs.getD i (none, 0)))[j]'(by rw [resCells_len]; exact hj)) := List.getElem?_eq_getElem _
    rw [e2] at e1 ⊢
    have := h.row.cells (g := g) rfl (4 * i + j) _ e1
    have hadd : (⟨g, 0, none⟩ : Addr).add (4 * i + j) = ⟨g, 4 * i + j, none⟩ := by unfold Addr.add; split <;> simp_all
    rwa [hadd] at this
theorem Src_res {P : Program} {tx e' : TypeId} {w : World} (hk : P.underlying tx = some (.slice e')) (x : Res) (v : Option Addr × Nat) (E : Nat) : Src P 4 tx (.slice (some ⟨w.heap.size, 0, none⟩) 1 1) 1 (resCells (x, v)) (w.alloc (.cells #[.int .i64 x.n, .slice v.1 x.data.length v.2, .bool x.ok, .bool x.pan] E)) := by
  refine Src.ofSlice _ hk ⟨w.heap.size, 0, none⟩ 1 1 (resCells (x, v)) rfl (fun j u hu => ?_) (by intro u hu; simp only [resCells, List.mem_cons, List.not_mem_nil, or_false] at hu; rcases hu with rfl | rfl | rfl | rfl <;> rfl)
  have h := Go.heap_alloc_new w (.cells #[.int .i64 x.n, .slice v.1 x.data.length v.2, .bool x.ok, .bool x.pan] E)
  have e : (⟨w.heap.size, 0, none⟩ : Addr).add j = ⟨w.heap.size, j, none⟩ := by unfold Addr.add; split <;> simp_all
  rw [e, cell_of h]
  show (resCells (x, v)).toArray[j]? = some u
  simpa using hu
end Go.Sha
end
