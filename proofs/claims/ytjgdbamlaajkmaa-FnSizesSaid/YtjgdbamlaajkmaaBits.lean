/- Slices of bools that read as lists, as those of bytes. No condition. -/
import Derived.Test.YtjgdbamlaajkmaaMem
namespace Go.Sha
open Go.RowKit
abbrev Bits := List Bool
/-- the slice (a, n, c) reads as the bytes l -/
structure SlB (w : World) (a : Option Addr) (n c : Nat) (l : Bits) : Prop where
  len : l.length = n
  cap : n ≤ c
  max : c ≤ maxLen
  cel : n = 0 ∨ ∃ b o, a = some ⟨b, o, none⟩ ∧ ∀ i, i < n → w.cell? ⟨b, o + i, none⟩ = some (.bool (l.getD i false))

theorem SlB.keep {S : List Nat} {w w' : World} {a : Option Addr} {n c : Nat} {l : Bits} (h : SlB w a n c l) (hf : Fr S w w') (hs : ∀ x, a = some x → n ≠ 0 → x.block ∉ S) : SlB w' a n c l := by
  refine ⟨h.len, h.cap, h.max, ?_⟩
  rcases h.cel with h0 | ⟨b, o, rfl, hc⟩
  · exact .inl h0
  · by_cases hn : n = 0
    · exact .inl hn
    · exact .inr ⟨b, o, rfl, fun i hi => hf.cell (hc i hi) (show b ∉ S from hs _ rfl hn)⟩
theorem SlB.keep0 {w w' : World} {a : Option Addr} {n c : Nat} {l : Bits} (h : SlB w a n c l) (hf : Fr [] w w') : SlB w' a n c l := h.keep hf (by simp)

/-- the slice owns its block, which came at base or behind it, and reads as l -/
def OwB (w : World) (base e : Nat) (a : Option Addr) (c : Nat) (l : Bits) : Prop := w.ownsRow base e 1 (.slice a l.length c) l.length (l.map Value.bool)

theorem OwB.sl {w : World} {base e : Nat} {a : Option Addr} {c : Nat} {l : Bits} (h : OwB w base e a c l) : SlB w a l.length c l := by
  obtain ⟨_, h2⟩ := h
  rcases h2 with ⟨h3, h0⟩ | ⟨g, cap, cur, hv, hb, hg, hn, hm, hs, ht⟩
  · simp only [Value.slice.injEq] at h3
    obtain ⟨rfl, h3, rfl⟩ := h3
    exact ⟨rfl, by omega, by simp [maxLen], .inl h0⟩
  · simp only [Value.slice.injEq] at hv
    obtain ⟨rfl, _, rfl⟩ := hv
    refine ⟨rfl, hn, hm, .inr ⟨g, 0, rfl, fun i hi => ?_⟩⟩
    have h4 : (cur.toList.take (l.length * 1))[i]? = (l.map Value.bool)[i]? := by rw [ht]
    rw [List.getElem?_take_of_lt (by omega)] at h4
    simp only [World.cell?, hg]
    simp only [Array.getElem?_toList, List.getElem?_map, List.getElem?_eq_getElem hi, Option.map_some, Nat.zero_add] at h4 ⊢
    rw [h4]
    simp [List.getD_eq_getElem?_getD, List.getElem?_eq_getElem hi]

/-- a slice that reads as bytes, as what is appended -/
theorem SlB.src {P : Program} {a : Option Addr} {n c : Nat} {l : Bits} {tx e' : TypeId} {w : World} (h : SlB w a n c l) (hk : P.underlying tx = some (.slice e')) : Src P 1 tx (.slice a n c) n (l.map Value.bool) w := by
  have h1 : ∀ u ∈ l.map Value.bool, u.oneCell' = true := fun u hu => by
    obtain ⟨_, _, rfl⟩ := List.mem_map.1 hu
    rfl
  have hl : (l.map Value.bool).length = n * 1 := by simp [h.len]
  rcases h.cel with h0 | ⟨b, o, rfl, hc⟩
  · subst h0
    have : l = [] := List.eq_nil_of_length_eq_zero h.len
    subst this
    cases a with
    | none => exact Src.ofNil w hk c
    | some ad => exact Src.ofSlice w hk ad 0 c [] (by simp) (by simp) (by simp)
  · refine Src.ofSlice w hk ⟨b, o, none⟩ n c (l.map Value.bool) hl (fun j u hu => ?_) h1
    have hj : j < n := by
      have := (List.getElem?_eq_some_iff.1 hu).1
      simpa [h.len] using this
    have hadd : (⟨b, o, none⟩ : Addr).add j = ⟨b, o + j, none⟩ := by unfold Addr.add; split <;> simp_all
    rw [hadd, hc j hj, ← hu]
    simp [List.getD_eq_getElem?_getD, List.getElem?_eq_getElem (show j < l.length by rw [h.len]; exact hj)]
theorem OwB.nil (w : World) (base e : Nat) : OwB w base e none 0 [] := World.ownsRow_nil w base e 1
theorem OwB.of {w : World} {base e n c : Nat} {a : Option Addr} {l : Bits} {xs : List Value} (h : w.ownsRow base e 1 (.slice a n c) n xs) (hn : n = l.length) (hx : xs = l.map Value.bool) : OwB w base e a c l := by
  subst hn; subst hx; exact h
theorem OwB.mono {w : World} {base base' e c : Nat} {a : Option Addr} {l : Bits} (h : OwB w base e a c l) (hb : base' ≤ base) : OwB w base' e a c l := by
  obtain ⟨h1, h2⟩ := h
  refine ⟨h1, ?_⟩
  rcases h2 with h2 | ⟨g, cap, cur, hv, hg, r⟩
  · exact .inl h2
  · exact .inr ⟨g, cap, cur, hv, by omega, r⟩
theorem OwB.len_le {w : World} {base e c : Nat} {a : Option Addr} {l : Bits} (h : OwB w base e a c l) : l.length ≤ maxLen := Nat.le_trans h.sl.cap h.sl.max
/-- a row of one's own stays while other blocks turn -/
theorem OwB.keep {S : List Nat} {w w' : World} {base e c : Nat} {a : Option Addr} {l : Bits} (h : OwB w base e a c l) (hf : Fr S w w') (hs : ∀ k, base ≤ k → k ∉ S) : OwB w' base e a c l := by
  obtain ⟨h1, h2⟩ := h
  refine ⟨h1, ?_⟩
  rcases h2 with h2 | ⟨g, cap, cur, hv, hg, hh, r⟩
  · exact .inl h2
  · exact .inr ⟨g, cap, cur, hv, hg, hf.obj hh (hs g hg), r⟩
theorem OwB.keep0 {w w' : World} {base e c : Nat} {a : Option Addr} {l : Bits} (h : OwB w base e a c l) (hf : Fr [] w w') : OwB w' base e a c l := h.keep hf (by simp)
/-- where the row lies -/
theorem OwB.block {w : World} {base e c : Nat} {ad : Addr} {l : Bits} (h : OwB w base e (some ad) c l) : ad.spot = none ∧ ad.off = 0 ∧ base ≤ ad.block ∧ ad.block < w.heap.size := by
  obtain ⟨h1, h2⟩ := h
  rcases h2 with ⟨h2, _⟩ | ⟨g, cap, cur, hv, hg, hh, r⟩
  · simp at h2
  · simp only [Value.slice.injEq, Option.some.injEq] at hv
    obtain ⟨rfl, _, _⟩ := hv
    exact ⟨rfl, rfl, hg, (Array.getElem?_eq_some_iff.1 hh).1⟩
/-- a new block of one byte, as a slice -/
theorem SlB.one (w : World) (u : Bool) (e : Nat) : SlB (w.alloc (.cells #[.bool u] e)) (some ⟨w.heap.size, 0, none⟩) 1 1 [u] := by
  refine ⟨rfl, Nat.le_refl _, by simp [maxLen], .inr ⟨w.heap.size, 0, rfl, fun i hi => ?_⟩⟩
  obtain rfl : i = 0 := by omega
  have h : (w.alloc (.cells #[.bool u] e)).heap[w.heap.size]? = some (.cells #[.bool u] e) := Go.heap_alloc_new w _
  simp only [World.cell?, h]
  rfl
/-- a slice just made -/
theorem OwB.made (w : World) (n e : Nat) (hn : n ≤ maxLen) : OwB (w.alloc (.cells (madeCells #[.bool false] n) e)) w.heap.size e (some ⟨w.heap.size, 0, none⟩) n (List.replicate n false) := by
  refine ⟨by simp, .inr ⟨w.heap.size, n, madeCells #[.bool false] n, by simp, Nat.le_refl _, Go.heap_alloc_new w _, by simp, hn, by simp [size_madeCells], ?_⟩⟩
  rw [toList_madeCells_one]
  simp
/-- a row of one's own that holds something: its block, its cells -/
theorem OwB.open {w : World} {base e c : Nat} {a : Option Addr} {l : Bits} (h : OwB w base e a c l) (hl : 0 < l.length) :
    ∃ g cur, a = some ⟨g, 0, none⟩ ∧ base ≤ g ∧ w.heap[g]? = some (.cells cur e (0, 0)) ∧ l.length ≤ c ∧ c ≤ maxLen ∧ cur.size = c ∧ cur.toList.take l.length = l.map Value.bool := by
  obtain ⟨h1, h2⟩ := h
  rcases h2 with ⟨_, h2⟩ | ⟨g, cap, cur, hv, hg, hh, hn, hm, hs, ht⟩
  · omega
  · simp only [Value.slice.injEq] at hv
    obtain ⟨rfl, _, rfl⟩ := hv
    exact ⟨g, cur, rfl, hg, hh, hn, hm, by simpa using hs, by simpa using ht⟩
theorem OwB.cell {w : World} {base e c g : Nat} {l : Bits} (h : OwB w base e (some ⟨g, 0, none⟩) c l) {k : Nat} (hk : k < l.length) :
    w.cell? ⟨g, k, none⟩ = some (.bool (l.getD k false)) ∧ w.frozen? ⟨g, k, none⟩ = false := by
  obtain ⟨g', cur, hg, _, hh, _, _, hs, ht⟩ := h.open (by omega)
  simp only [Option.some.injEq, Addr.mk.injEq] at hg
  obtain ⟨rfl, _, _⟩ := hg
  refine ⟨?_, by simp [World.frozen?, hh]⟩
  have h4 : (cur.toList.take l.length)[k]? = (l.map Value.bool)[k]? := by rw [ht]
  rw [List.getElem?_take_of_lt hk] at h4
  simp only [World.cell?, hh]
  simp only [Array.getElem?_toList, List.getElem?_map, List.getElem?_eq_getElem hk, Option.map_some] at h4
  simp [h4, Value.bool, List.getElem?_eq_getElem hk]
/-- a store into a row of one's own -/
theorem OwB.set {w : World} {base e c g : Nat} {l : Bits} (h : OwB w base e (some ⟨g, 0, none⟩) c l) {k : Nat} (hk : k < l.length) (v : Bool) :
    OwB (w.setCell ⟨g, k, none⟩ (.bool v)) base e (some ⟨g, 0, none⟩) c (l.set k v) := by
  obtain ⟨g', cur, hg, hb, hh, hc, hm, hs, ht⟩ := h.open (by omega)
  simp only [Option.some.injEq, Addr.mk.injEq] at hg
  obtain ⟨rfl, _, _⟩ := hg
  refine ⟨by simp, .inr ⟨g, c, _, by simp, hb, heap_setCell_same hh _, by simpa using hc, hm, by simpa using hs, ?_⟩⟩
  simp only [List.length_set, Nat.mul_one, Array.toList_setIfInBounds, List.take_set, ht, List.map_set]
/-- the beginning of a slice -/
theorem SlB.take {w : World} {a : Option Addr} {n c : Nat} {l : Bits} (h : SlB w a n c l) (k : Nat) (hk : k ≤ n) : SlB w a k c (l.take k) := by
  have h1 := h.len
  have h2 := h.cap
  refine ⟨by simp; omega, by omega, h.max, ?_⟩
  rcases h.cel with h0 | ⟨b, o, rfl, hc⟩
  · exact .inl (by omega)
  · refine .inr ⟨b, o, rfl, fun i hi => ?_⟩
    rw [hc i (by omega)]
    simp [List.getD_eq_getElem?_getD, List.getElem?_take_of_lt hi]
theorem SlB.lt {w : World} {a : Option Addr} {n c : Nat} {l : Bits} (h : SlB w a n c l) {x : Addr} (hx : a = some x) (hn : n ≠ 0) : x.block < w.heap.size := by
  rcases h.cel with h0 | ⟨b, o, rfl, hc⟩
  · exact absurd h0 hn
  · simp only [Option.some.injEq] at hx
    subst hx
    exact World.block_lt_of_cell? w _ (hc 0 (by omega))
theorem OwB.sl_at {w : World} {base e n c : Nat} {a : Option Addr} {l : Bits} (h : OwB w base e a c l) (hn : l.length = n) : SlB w a n c l := by subst hn; exact h.sl

/-- N bools as cells -/
def bcells (N : Nat) (c : Nat → Bool) : Array Value := (Array.range N).map fun i => Value.bool (c i)
theorem bcells_size (N : Nat) (c : Nat → Bool) : (bcells N c).size = N := by simp [bcells]
theorem bcells_get (N : Nat) (c : Nat → Bool) (i : Nat) (h : i < N) : (bcells N c)[i]? = some (.bool (c i)) := by simp [bcells, h]
theorem bcells_congr (N : Nat) {c c' : Nat → Bool} (h : ∀ i, i < N → c i = c' i) : bcells N c = bcells N c' := by
  unfold bcells
  apply Array.ext
  · simp
  · intro j h1 h2
    simp at h1
    simp [h j h1]
theorem bcells_one (N : Nat) (c : Nat → Bool) : ∀ v ∈ (bcells N c).toList, v.oneCell' = true := fun v hv => by
  simp only [bcells, Array.toList_map, List.mem_map] at hv
  obtain ⟨_, _, rfl⟩ := hv
  rfl
theorem bcells_false (n : Nat) : (List.replicate n (Value.bool false)).toArray = bcells n fun _ => false := by
  apply Array.ext
  · simp [bcells]
  · intro i h1 h2
    simp [bcells]
def upd (c : Nat → Bool) (i : Nat) (v : Bool) : Nat → Bool := fun j => if j = i then v else c j
theorem bcells_set (N : Nat) (c : Nat → Bool) (i : Nat) (v : Bool) : (bcells N c).setIfInBounds i (.bool v) = bcells N (upd c i v) := by
  apply Array.ext
  · simp [bcells]
  · intro j h1 h2
    simp only [bcells, Array.getElem_map, Array.getElem_range, upd]
    by_cases e : i = j
    · subst e; simp
    · rw [if_neg (fun x => e x.symm), Array.getElem_setIfInBounds_ne (by simpa [bcells] using h2) e]
      simp
/-- N bools lie in block g -/
def BoolsAt (w : World) (g T N : Nat) (c : Nat → Bool) : Prop := w.heap[g]? = some (.cells (bcells N c) T (0, 0))
section
variable {w : World} {g T N : Nat} {c : Nat → Bool}
theorem BoolsAt.cell (h : BoolsAt w g T N c) {i : Nat} (hi : i < N) : w.cell? ⟨g, i, none⟩ = some (.bool (c i)) := by
  have h1 : w.heap[g]? = _ := h
  simp only [World.cell?, h1]
  simpa using bcells_get N c i hi
theorem BoolsAt.fz (h : BoolsAt w g T N c) (i : Nat) : w.frozen? ⟨g, i, none⟩ = false := by
  have h1 : w.heap[g]? = _ := h
  simp [World.frozen?, h1]
theorem BoolsAt.lt (h : BoolsAt w g T N c) : g < w.heap.size := (Array.getElem?_eq_some_iff.1 h).1
theorem BoolsAt.keep {S : List Nat} {w' : World} (h : BoolsAt w g T N c) (hf : Fr S w w') (hg : g ∉ S) : BoolsAt w' g T N c := hf.obj h hg
theorem BoolsAt.set (h : BoolsAt w g T N c) {i : Nat} (v : Bool) : BoolsAt (w.setCell ⟨g, i, none⟩ (.bool v)) g T N (upd c i v) := by
  show _ = _
  rw [heap_setCell_same h, bcells_set]
theorem BoolsAt.other (h : BoolsAt w g T N c) {g' i : Nat} (hg : g ≠ g') (v : Value) : BoolsAt (w.setCell ⟨g', i, none⟩ v) g T N c := by
  show _ = _
  rw [Below.heap_setCell _ _ _ _ hg]
  exact h
theorem BoolsAt.congr (h : BoolsAt w g T N c) {c' : Nat → Bool} (he : ∀ i, i < N → c i = c' i) : BoolsAt w g T N c' := by
  show _ = _
  rw [← bcells_congr N he]
  exact h
theorem BoolsAt.new (w : World) (T N : Nat) (c : Nat → Bool) : BoolsAt (w.alloc (.cells (bcells N c) T)) w.heap.size T N c := Go.heap_alloc_new w _
theorem BoolsAt.alloc (h : BoolsAt w g T N c) (o : Obj) : BoolsAt (w.alloc o) g T N c := h.keep ((Fr.refl [] w).alloc o) (by simp)
end
end Go.Sha
