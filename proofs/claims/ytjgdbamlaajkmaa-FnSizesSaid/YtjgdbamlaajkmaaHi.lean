/- The state of a script over hashes: where its hashes and saved states lie, and how it is carried along. No condition. -/
import Derived.Test.YtjgdbamlaajkmaaMarB
namespace Go.Sha
open Go.RowKit
/-- a row of one's own stays while other blocks turn -/
theorem ownsRow_keep {S : List Nat} {w w' : World} {base e sz n : Nat} {v : Value} {xs : List Value} (h : w.ownsRow base e sz v n xs) (hf : Fr S w w') (hs : ∀ k, v.ownBlock = some k → k ∉ S) : w'.ownsRow base e sz v n xs := by
  obtain ⟨h1, h2⟩ := h
  refine ⟨h1, ?_⟩
  rcases h2 with h2 | ⟨g, cap, cur, hv, hg, hh, r⟩
  · exact .inl h2
  · exact .inr ⟨g, cap, cur, hv, hg, hf.obj hh (hs g (by rw [hv]; rfl)), r⟩
theorem ownsRow_mono {w : World} {base base' e sz n : Nat} {v : Value} {xs : List Value} (h : w.ownsRow base e sz v n xs) (hb : base' ≤ base) : w.ownsRow base' e sz v n xs := by
  obtain ⟨h1, h2⟩ := h
  refine ⟨h1, ?_⟩
  rcases h2 with h2 | ⟨g, cap, cur, hv, hg, hh, r⟩
  · exact .inl h2
  · exact .inr ⟨g, cap, cur, hv, Nat.le_trans hb hg, hh, r⟩
theorem ownsRow_lt {w : World} {base e sz n k : Nat} {v : Value} {xs : List Value} (h : w.ownsRow base e sz v n xs) (hk : v.ownBlock = some k) : base ≤ k ∧ k < w.heap.size := by
  rcases h.2 with ⟨h2, _⟩ | ⟨g, cap, cur, hv, hg, hh, r⟩
  · rw [h2] at hk; simp [Value.ownBlock] at hk
  · rw [hv] at hk
    have e : k = g := by simp [Value.ownBlock] at hk; exact hk.symm
    subst e
    exact ⟨hg, (Array.getElem?_eq_some_iff.1 hh).1⟩
def ptr (b : Nat) : Value := .pointer (some ⟨b, 0, none⟩)
def slv (x : Nat × Nat) : Value := .slice (some ⟨x.1, 0, none⟩) 207 x.2
/-- the state of a script: h lies in block hb, its hashes in the blocks bs, the saved states in ss; S: the blocks that a call may write -/
structure HI (HT PT SU ST : Nat) (w : World) (base hb : Nat) (kind : Int) (r o : Nat) (all : List Bs) (saved : List Bs) (bs : List Nat) (ss : List (Nat × Nat)) (a1 : Option Addr) (c1 : Nat) (a2 : Option Addr) (c2 : Nat) (S : List Nat) : Prop where
  blk : w.heap[hb]? = some (.cells #[.int .i64 kind, .slice a1 all.length c1, .slice a2 saved.length c2] HT (0, 0))
  bl : bs.length = all.length
  rowA : w.ownsRow base PT 1 (.slice a1 all.length c1) all.length (bs.map ptr)
  hs : ∀ i, i < all.length → HsAt w (bs.getD i 0) ST r o (all.getD i [])
  nodup : bs.Nodup
  sl : ss.length = saved.length
  rowS : w.ownsRow base SU 1 (.slice a2 saved.length c2) saved.length (ss.map slv)
  sv : ∀ i, i < saved.length → Sl w (some ⟨(ss.getD i (0, 0)).1, 0, none⟩) 207 (ss.getD i (0, 0)).2 (marH r o (saved.getD i [])) ∧ (ss.getD i (0, 0)).1 ∉ S
  hbS : hb ∈ S
  bsS : ∀ b ∈ bs, b ∈ S
  a1S : ∀ x, a1 = some x → x.block ∈ S
  a2S : ∀ x, a2 = some x → x.block ∈ S
  hbbs : hb ∉ bs
  a1bs : ∀ x, a1 = some x → x.block ≠ hb ∧ x.block ∉ bs
  a2bs : ∀ x, a2 = some x → x.block ≠ hb ∧ x.block ∉ bs
  a12 : ∀ x y, a1 = some x → a2 = some y → x.block ≠ y.block
  Slt : ∀ k ∈ S, base ≤ k ∧ k < w.heap.size
  pos : 0 < all.length
  rt : Rt r o
section
variable {HT PT SU ST : Nat} {w w' : World} {base hb : Nat} {kind : Int} {r o : Nat} {all saved : List Bs} {bs : List Nat} {ss : List (Nat × Nat)} {a1 a2 : Option Addr} {c1 c2 : Nat} {S : List Nat}
theorem ownBlock_some {a : Option Addr} {n c k : Nat} (h : (Value.slice a n c).ownBlock = some k) : ∃ x, a = some x ∧ x.block = k := by
  cases a with
  | none => simp [Value.ownBlock] at h
  | some x => exact ⟨x, rfl, by simpa [Value.ownBlock] using h⟩
/-- blocks outside turn -/
theorem HI.keep0 (h : HI HT PT SU ST w base hb kind r o all saved bs ss a1 c1 a2 c2 S) (hf : Fr [] w w') : HI HT PT SU ST w' base hb kind r o all saved bs ss a1 c1 a2 c2 S :=
  ⟨hf.obj h.blk (by simp), h.bl, ownsRow_keep h.rowA hf (by simp), fun i hi => (h.hs i hi).keep hf (by simp), h.nodup, h.sl, ownsRow_keep h.rowS hf (by simp), fun i hi => ⟨(h.sv i hi).1.keep0 hf, (h.sv i hi).2⟩, h.hbS, h.bsS, h.a1S, h.a2S, h.hbbs, h.a1bs, h.a2bs, h.a12, fun k hk => ⟨(h.Slt k hk).1, Nat.lt_of_lt_of_le (h.Slt k hk).2 hf.size⟩, h.pos, h.rt⟩
theorem getD_set {α : Type} (l : List α) (i j : Nat) (v d : α) (hi : i < l.length) : (l.set i v).getD j d = if j = i then v else l.getD j d := by
  simp only [List.getD_eq_getElem?_getD, List.getElem?_set]
  by_cases h : i = j
  · subst h; simp [hi]
  · rw [if_neg h, if_neg (fun e => h e.symm)]
theorem nodup_getD {bs : List Nat} (h : bs.Nodup) {i j : Nat} (hi : i < bs.length) (hj : j < bs.length) (hne : i ≠ j) : bs.getD i 0 ≠ bs.getD j 0 := by
  simp only [List.getD_eq_getElem?_getD, List.getElem?_eq_getElem hi, List.getElem?_eq_getElem hj, Option.getD_some]
  rcases Nat.lt_or_gt_of_ne hne with h1 | h1
  · exact List.pairwise_iff_getElem.1 h i j hi hj h1
  · exact fun e => List.pairwise_iff_getElem.1 h j i hj hi h1 e.symm
theorem getD_mem {bs : List Nat} {i : Nat} (hi : i < bs.length) : bs.getD i 0 ∈ bs := by
  simp only [List.getD_eq_getElem?_getD, List.getElem?_eq_getElem hi, Option.getD_some]
  exact List.getElem_mem hi
/-- one hash turns -/
theorem HI.upd (h : HI HT PT SU ST w base hb kind r o all saved bs ss a1 c1 a2 c2 S) (i : Nat) (hi : i < all.length) (data : Bs) (hf : Fr [bs.getD i 0] w w') (hd : HsAt w' (bs.getD i 0) ST r o data) :
    HI HT PT SU ST w' base hb kind r o (all.set i data) saved bs ss a1 c1 a2 c2 S := by
  have hm := getD_mem (bs := bs) (i := i) (by rw [h.bl]; exact hi)
  have hl : (all.set i data).length = all.length := by simp
  refine ⟨?_, by rw [hl]; exact h.bl, ?_, ?_, h.nodup, h.sl, ?_, ?_, h.hbS, h.bsS, h.a1S, h.a2S, h.hbbs, h.a1bs, h.a2bs, h.a12, fun k hk => ⟨(h.Slt k hk).1, Nat.lt_of_lt_of_le (h.Slt k hk).2 hf.size⟩, by rw [hl]; exact h.pos, h.rt⟩
  · rw [hl]
    exact hf.obj h.blk (by simp; intro e; exact h.hbbs (e ▸ hm))
  · rw [hl]
    refine ownsRow_keep h.rowA hf (fun k hk => ?_)
    obtain ⟨x, hx, rfl⟩ := ownBlock_some hk
    simp
    intro e
    exact (h.a1bs x hx).2 (e ▸ hm)
  · intro j hj
    rw [hl] at hj
    rw [getD_set _ _ _ _ _ hi]
    by_cases e : j = i
    · subst e; rw [if_pos rfl]; exact hd
    · rw [if_neg e]
      exact (h.hs j hj).keep hf (by simp; exact nodup_getD h.nodup (by rw [h.bl]; exact hj) (by rw [h.bl]; exact hi) e)
  · refine ownsRow_keep h.rowS hf (fun k hk => ?_)
    obtain ⟨x, hx, rfl⟩ := ownBlock_some hk
    simp
    intro e
    exact (h.a2bs x hx).2 (e ▸ hm)
  · intro j hj
    refine ⟨(h.sv j hj).1.keep hf (fun x hx _ => ?_), (h.sv j hj).2⟩
    simp only [Option.some.injEq] at hx
    subst hx
    simp
    intro e
    exact (h.sv j hj).2 (e ▸ h.bsS _ hm)
end
end Go.Sha
