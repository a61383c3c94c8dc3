/- Contracts and lemmas, merged: Perm, Bits, RowW, Mod, Part. Their conditions stand in each. -/
import Derived.Test.YtkijnpjefccepaaGA
import Derived.Deep.MidRow
import Derived.IntWalk
import Derived.StillTailTactics
section
namespace Go.Sha
open Go.RowKit
def permD (d : Dg) : Dg := { d with a := kf d.a, n := 0 }
/-- the byte of domain, the last bit of the padding, the permutation -/
def padD (d : Dg) : Dg :=
  let a1 := d.a.set d.n (d.a.getD d.n 0 ^^^ d.ds)
  let a2 := a1.set (d.rate - 1) (a1.getD (d.rate - 1) 0 ^^^ 128)
  { d with a := kf a2, n := 0, st := 1 }
/-- v is handed back; the sponge has become d; all else is as it was -/
def RetD (v : Value) (b T : Nat) (ext : List Value) (d : Dg) (w : World) (e : Ending) (w' : World) : Prop := e = .returned v ∧ DgAt w' b T ext d ∧ Fr [b] w w'
theorem Fr.into {S : List Nat} {w w' w'' : World} (h : Fr [] w w') (k : Fr S w' w'') : Fr S w w'' := (h.mono (by simp)).trans k
theorem Fr.two {b g : Nat} {w w' : World} (h : Fr [b] w w') : Fr [b, g] w w' := h.mono (fun k _ hk => by simp at hk ⊢; exact .inl hk)
end Go.Sha
namespace Go.Proofs.Ytkijnpjefccepaa
open Go.ChangeShapes Go.WideShapes Go.ChangeAt Go.RowKit Go.Sha

theorem keccak_call {w : World} {b T : Nat} {ext : List Value} {d : Dg} (h : DgAt w b T ext d) :
    ∃ w', (callFunc 102 #[.pointer (some ⟨b, 0, none⟩)]).run Try.prog w = .ok (.value (.tuple #[])) w' ∧ DgAt w' b T ext { d with a := kf d.a } ∧ Fr [b] w w' := by
  obtain ⟨w', h1, h2, h3⟩ := run_keccak (P := Try.prog) h
  refine ⟨w', ?_, h2, h3⟩
  rw [run_callFunc_ext Try.func102 #[.pointer (some ⟨b, 0, none⟩)] (Extern.Keccak.keccakF1600 #[.pointer (some ⟨b, 0, none⟩)]) (by kernel_rfl) (by kernel_rfl) (by kernel_rfl) (by kernel_rfl), h1]
  rfl

theorem permute_any (w : World) (b T : Nat) (ext : List Value) (d : Dg) (h : DgAt w b T ext d) :
    Calls Try.prog 98 #[.pointer (some ⟨b, 0, none⟩)] w (RetD (.tuple #[]) b T ext (permD d) w) := by
  obtain ⟨w1, hc, h1, hf⟩ := keccak_call h
  have q1 := h1.cn
  have q2 := h1.fz 200
  go_enter Try.func98, Try.ntmps98
  go_wp2
  go_end0
  exact ⟨rfl, h1.setN 0, hf.setCell _ _ (.inr (by simp))⟩

theorem DgAt_drewN {w : World} {b T : Nat} {ext : List Value} {d : Dg} (h : DgAt w b T ext d) (n : Nat) : DgAt (w.drewN n) b T ext d := h
theorem DgAt_drew {w : World} {b T : Nat} {ext : List Value} {d : Dg} (h : DgAt w b T ext d) : DgAt w.drew b T ext d := h

set_option maxRecDepth 100000 in
set_option maxHeartbeats 400000 in
theorem padAndPermute_any (w : World) (b T : Nat) (ext : List Value) (d : Dg) (h : DgAt w b T ext d) (hn : d.n < d.rate) (hr : d.rate ≤ 168) :
    Calls Try.prog 97 #[.pointer (some ⟨b, 0, none⟩)] w (RetD (.tuple #[]) b T ext (padD d) w) := by
  obtain ⟨da, dn, dr, dd, dou, dst⟩ := d
  simp only at hn hr
  have f1 : Fr [b] w w.drew := (Fr.refl _ _).drew
  have h2 : DgAt w.drew b T ext ⟨da, dn, dr, dd, dou, dst⟩ := h
  go_enter Try.func97, Try.ntmps97
  go_wp2
  refine wp_region_still_tail 17 (by kernel_rfl) (by kernel_rfl) ?_
  change wpStill Try.prog _ w.drew (fun a' => wpList Try.prog _ _ _ a' w.drew) _ _
  generalize w.drew = w2 at f1 h2 ⊢
  have q1 := h2.cn
  have q2 := h2.byte (i := dn) (by omega)
  have q3 := h2.cds
  have q4 := h2.fz dn
  simp only at q1 q2 q3
  generalize hX : da.getD dn 0 = X at q2
  have HX := Lib.hid hX
  clear hX h
  simp only [List.take_succ_cons, List.take_zero, List.drop_succ_cons, List.drop_zero]
  have hb1 : (dn : Int) < 200 := by omega
  repeat still_step
  refine wpStill_nil ?_
  go_wp2
  rw [bits_xor]
  have h3 := h2.setA (i := dn) (by omega) (X ^^^ dd)
  have f3 : Fr [b] w (w2.setCell ⟨b, dn, none⟩ (.int .u8 (X ^^^ dd).toNat)) := f1.setCell _ _ (.inr (by simp))
  generalize w2.setCell ⟨b, dn, none⟩ (.int .u8 (X ^^^ dd).toNat) = w3 at f3 h3 ⊢
  rw [← HX.out] at h3
  clear q1 q2 q3 q4 HX h2 f1 hb1
  simp only at h3
  generalize hA : da.set dn (da.getD dn 0 ^^^ dd) = A at h3
  have HA := Lib.hid hA
  clear hA
  refine wp_region_still_tail 14 (by kernel_rfl) (by kernel_rfl) ?_
  change wpStill Try.prog _ w3.drew (fun a' => wpList Try.prog _ _ _ a' w3.drew) _ _
  have f4 := f3.drew
  have h4 := DgAt_drew h3
  clear f3 h3
  generalize w3.drew = w4 at f4 h4 ⊢
  obtain ⟨r1, hr1⟩ : ∃ r1, dr = r1 + 1 := ⟨dr - 1, by omega⟩
  subst hr1
  have q1 := h4.crate
  have q2 := h4.byte (i := r1) (by omega)
  have q4 := h4.fz r1
  simp only at q1 q2
  generalize hX : A.getD r1 0 = X at q2
  have HX := Lib.hid hX
  clear hX
  have hb1 : (r1 : Int) < 200 := by omega
  have hb3 : IntKind.i64.wrap (r1 : Int) = (r1 : Int) := IntWalk.i64_in _ (by omega)
  simp only [List.take_succ_cons, List.take_zero, List.drop_succ_cons, List.drop_zero]
  repeat still_step
  refine wpStill_nil ?_
  go_wp2_with fail
  have e128 : bits BinOp.xor IntKind.u8 (X.toNat : Int) 128 = ((X ^^^ 128).toNat : Int) := bits_xor X 128
  rw [e128]
  clear hb3
  have h5 := h4.setA (i := r1) (by omega) (X ^^^ 128)
  have f5 : Fr [b] w (w4.setCell ⟨b, r1, none⟩ (.int .u8 (X ^^^ 128).toNat)) := f4.setCell _ _ (.inr (by simp))
  generalize w4.setCell ⟨b, r1, none⟩ (.int .u8 (X ^^^ 128).toNat) = w5 at f5 h5 ⊢
  refine (permute_any _ _ _ _ _ h5).mono ?_
  rintro e w6 ⟨rfl, h6, f6⟩
  have q7 := h6.cst
  have q8 := h6.fz 204
  clear q1 q2 q4
  go_wp2_with fail
  go_end0
  refine ⟨rfl, ?_, (f5.trans f6).setCell _ _ (.inr (by simp))⟩
  have h7 := h6.setSt 1
  have e : ({ permD { a := A.set r1 (X ^^^ 128), n := dn, rate := r1 + 1, ds := dd, out := dou, st := dst } with st := 1 } : Dg) = padD { a := da, n := dn, rate := r1 + 1, ds := dd, out := dou, st := dst } := by
    simp only [padD, permD, HA.out, Nat.add_sub_cancel, HX.out]
  rw [← e]
  exact h7
end Go.Proofs.Ytkijnpjefccepaa
end

section
namespace Go.Sha
open Go.RowKit
abbrev Bits := List Bool
/-- the slice (a, n, c) reads as the bytes l -/
structure SlB (w : World) (a : Option Addr) (n c : Nat) (l : Bits) : Prop where
  len : l.length = n
  cap : n ≤ c
  max : c ≤ maxLen
  cel : n = 0 ∨ ∃ b o, a = some ⟨b, o, none⟩ ∧ ∀ i, i < n → w.cell? ⟨b, o + i, none⟩ = some (.bool (l.getD i false))

theorem SlB.keep {S : List Nat} {w w' : World} {a : Option Addr} {n c : Nat} {l : Bits} (h : SlB w a n c l) (hf : Fr S w w') (hs : ∀ x, a = some x → n ≠ 0 → x.block ∉ S) : SlB w' a n c l := by
  refine ⟨h.len, h.cap, h.max, ?_⟩
  rcases h.cel with h0 | ⟨b, o, rfl, hc⟩
  · exact .inl h0
  · by_cases hn : n = 0
    · exact .inl hn
    · exact .inr ⟨b, o, rfl, fun i hi => hf.cell (hc i hi) (show b ∉ S from hs _ rfl hn)⟩
theorem SlB.keep0 {w w' : World} {a : Option Addr} {n c : Nat} {l : Bits} (h : SlB w a n c l) (hf : Fr [] w w') : SlB w' a n c l := h.keep hf (by simp)

/-- the slice owns its block, which came at base or behind it, and reads as l -/
def OwB (w : World) (base e : Nat) (a : Option Addr) (c : Nat) (l : Bits) : Prop := w.ownsRow base e 1 (.slice a l.length c) l.length (l.map Value.bool)

theorem OwB.sl {w : World} {base e : Nat} {a : Option Addr} {c : Nat} {l : Bits} (h : OwB w base e a c l) : SlB w a l.length c l := by
  obtain ⟨_, h2⟩ := h
  rcases h2 with ⟨h3, h0⟩ | ⟨g, cap, cur, hv, hb, hg, hn, hm, hs, ht⟩
  · simp only [Value.slice.injEq] at h3
    obtain ⟨rfl, h3, rfl⟩ := h3
    exact ⟨rfl, by omega, by simp [maxLen], .inl h0⟩
  · simp only [Value.slice.injEq] at hv
    obtain ⟨rfl, _, rfl⟩ := hv
    refine ⟨rfl, hn, hm, .inr ⟨g, 0, rfl, fun i hi => ?_⟩⟩
    have h4 : (cur.toList.take (l.length * 1))[i]? = (l.map Value.bool)[i]? := by rw [ht]
    rw [List.getElem?_take_of_lt (by omega)] at h4
    simp only [World.cell?, hg]
    simp only [Array.getElem?_toList, List.getElem?_map, List.getElem?_eq_getElem hi, Option.map_some, Nat.zero_add] at h4 ⊢
    rw [h4]
    simp [List.getD_eq_getElem?_getD, List.getElem?_eq_getElem hi]

/-- a slice that reads as bytes, as what is appended -/
theorem SlB.src {P : Program} {a : Option Addr} {n c : Nat} {l : Bits} {tx e' : TypeId} {w : World} (h : SlB w a n c l) (hk : P.underlying tx = some (.slice e')) : Src P 1 tx (.slice a n c) n (l.map Value.bool) w := by
  have h1 : ∀ u ∈ l.map Value.bool, u.oneCell' = true := fun u hu => by
    obtain ⟨_, _, rfl⟩ := List.mem_map.1 hu
    rfl
  have hl : (l.map Value.bool).length = n * 1 := by simp [h.len]
  rcases h.cel with h0 | ⟨b, o, rfl, hc⟩
  · subst h0
    have : l = [] := List.eq_nil_of_length_eq_zero h.len
    subst this
    cases a with
    | none => exact Src.ofNil w hk c
    | some ad => exact Src.ofSlice w hk ad 0 c [] (by simp) (by simp) (by simp)
  · refine Src.ofSlice w hk ⟨b, o, none⟩ n c (l.map Value.bool) hl (fun j u hu => ?_) h1
    have hj : j < n := by
      have := (List.getElem?_eq_some_iff.1 hu).1
      simpa [h.len] using this
    have hadd : (⟨b, o, none⟩ : Addr).add j = ⟨b, o + j, none⟩ := by unfold Addr.add; split <;> simp_all
    rw [hadd, hc j hj, ← hu]
    simp [List.getD_eq_getElem?_getD, List.getElem?_eq_getElem (show j < l.length by rw [h.len]; exact hj)]
theorem OwB.nil (w : World) (base e : Nat) : OwB w base e none 0 [] := World.ownsRow_nil w base e 1
theorem OwB.of {w : World} {base e n c : Nat} {a : Option Addr} {l : Bits} {xs : List Value} (h : w.ownsRow base e 1 (.slice a n c) n xs) (hn : n = l.length) (hx : xs = l.map Value.bool) : OwB w base e a c l := by
  subst hn; subst hx; exact h
theorem OwB.mono {w : World} {base base' e c : Nat} {a : Option Addr} {l : Bits} (h : OwB w base e a c l) (hb : base' ≤ base) : OwB w base' e a c l := by
  obtain ⟨h1, h2⟩ := h
  refine ⟨h1, ?_⟩
  rcases h2 with h2 | ⟨g, cap, cur, hv, hg, r⟩
  · exact .inl h2
  · exact .inr ⟨g, cap, cur, hv, by omega, r⟩
theorem OwB.len_le {w : World} {base e c : Nat} {a : Option Addr} {l : Bits} (h : OwB w base e a c l) : l.length ≤ maxLen := Nat.le_trans h.sl.cap h.sl.max
/-- a row of one's own stays while other blocks turn -/
theorem OwB.keep {S : List Nat} {w w' : World} {base e c : Nat} {a : Option Addr} {l : Bits} (h : OwB w base e a c l) (hf : Fr S w w') (hs : ∀ k, base ≤ k → k ∉ S) : OwB w' base e a c l := by
  obtain ⟨h1, h2⟩ := h
  refine ⟨h1, ?_⟩
  rcases h2 with h2 | ⟨g, cap, cur, hv, hg, hh, r⟩
  · exact .inl h2
  · exact .inr ⟨g, cap, cur, hv, hg, hf.obj hh (hs g hg), r⟩
theorem OwB.keep0 {w w' : World} {base e c : Nat} {a : Option Addr} {l : Bits} (h : OwB w base e a c l) (hf : Fr [] w w') : OwB w' base e a c l := h.keep hf (by simp)
/-- where the row lies -/
theorem OwB.block {w : World} {base e c : Nat} {ad : Addr} {l : Bits} (h : OwB w base e (some ad) c l) : ad.spot = none ∧ ad.off = 0 ∧ base ≤ ad.block ∧ ad.block < w.heap.size := by
  obtain ⟨h1, h2⟩ := h
  rcases h2 with ⟨h2, _⟩ | ⟨g, cap, cur, hv, hg, hh, r⟩
  · simp at h2
  · simp only [Value.slice.injEq, Option.some.injEq] at hv
    obtain ⟨rfl, _, _⟩ := hv
    exact ⟨rfl, rfl, hg, (Array.getElem?_eq_some_iff.1 hh).1⟩
/-- a new block of one byte, as a slice -/
theorem SlB.one (w : World) (u : Bool) (e : Nat) : SlB (w.alloc (.cells #[.bool u] e)) (some ⟨w.heap.size, 0, none⟩) 1 1 [u] := by
  refine ⟨rfl, Nat.le_refl _, by simp [maxLen], .inr ⟨w.heap.size, 0, rfl, fun i hi => ?_⟩⟩
  obtain rfl : i = 0 := by omega
  have h : (w.alloc (.cells #[.bool u] e)).heap[w.heap.size]? = some (.cells #[.bool u] e) := Go.heap_alloc_new w _
  simp only [World.cell?, h]
  rfl
/-- a slice just made -/
theorem OwB.made (w : World) (n e : Nat) (hn : n ≤ maxLen) : OwB (w.alloc (.cells (madeCells #[.bool false] n) e)) w.heap.size e (some ⟨w.heap.size, 0, none⟩) n (List.replicate n false) := by
  refine ⟨by simp, .inr ⟨w.heap.size, n, madeCells #[.bool false] n, by simp, Nat.le_refl _, Go.heap_alloc_new w _, by simp, hn, by simp [size_madeCells], ?_⟩⟩
  rw [toList_madeCells_one]
  simp
/-- a row of one's own that holds something: its block, its cells -/
theorem OwB.open {w : World} {base e c : Nat} {a : Option Addr} {l : Bits} (h : OwB w base e a c l) (hl : 0 < l.length) :
    ∃ g cur, a = some ⟨g, 0, none⟩ ∧ base ≤ g ∧ w.heap[g]? = some (.cells cur e (0, 0)) ∧ l.length ≤ c ∧ c ≤ maxLen ∧ cur.size = c ∧ cur.toList.take l.length = l.map Value.bool := by
  obtain ⟨h1, h2⟩ := h
  rcases h2 with ⟨_, h2⟩ | ⟨g, cap, cur, hv, hg, hh, hn, hm, hs, ht⟩
  · omega
  · simp only [Value.slice.injEq] at hv
    obtain ⟨rfl, _, rfl⟩ := hv
    exact ⟨g, cur, rfl, hg, hh, hn, hm, by simpa using hs, by simpa using ht⟩
theorem OwB.cell {w : World} {base e c g : Nat} {l : Bits} (h : OwB w base e (some ⟨g, 0, none⟩) c l) {k : Nat} (hk : k < l.length) :
    w.cell? ⟨g, k, none⟩ = some (.bool (l.getD k false)) ∧ w.frozen? ⟨g, k, none⟩ = false := by
  obtain ⟨g', cur, hg, _, hh, _, _, hs, ht⟩ := h.open (by omega)
  simp only [Option.some.injEq, Addr.mk.injEq] at hg
  obtain ⟨rfl, _, _⟩ := hg
  refine ⟨?_, by simp [World.frozen?, hh]⟩
  have h4 : (cur.toList.take l.length)[k]? = (l.map Value.bool)[k]? := by rw [ht]
  rw [List.getElem?_take_of_lt hk] at h4
  simp only [World.cell?, hh]
  simp only [Array.getElem?_toList, List.getElem?_map, List.getElem?_eq_getElem hk, Option.map_some] at h4
  simp [h4, List.getElem?_eq_getElem hk]
/-- a store into a row of one's own -/
theorem OwB.set {w : World} {base e c g : Nat} {l : Bits} (h : OwB w base e (some ⟨g, 0, none⟩) c l) {k : Nat} (hk : k < l.length) (v : Bool) :
    OwB (w.setCell ⟨g, k, none⟩ (.bool v)) base e (some ⟨g, 0, none⟩) c (l.set k v) := by
  obtain ⟨g', cur, hg, hb, hh, hc, hm, hs, ht⟩ := h.open (by omega)
  simp only [Option.some.injEq, Addr.mk.injEq] at hg
  obtain ⟨rfl, _, _⟩ := hg
  refine ⟨by simp, .inr ⟨g, c, _, by simp, hb, heap_setCell_same hh _, by simpa using hc, hm, by simpa using hs, ?_⟩⟩
  simp only [List.length_set, Nat.mul_one, Array.toList_setIfInBounds, List.take_set, ht, List.map_set]
/-- the beginning of a slice -/
theorem SlB.take {w : World} {a : Option Addr} {n c : Nat} {l : Bits} (h : SlB w a n c l) (k : Nat) (hk : k ≤ n) : SlB w a k c (l.take k) := by
  have h1 := h.len
  have h2 := h.cap
  refine ⟨by simp; omega, by omega, h.max, ?_⟩
  rcases h.cel with h0 | ⟨b, o, rfl, hc⟩
  · exact .inl (by omega)
  · refine .inr ⟨b, o, rfl, fun i hi => ?_⟩
    rw [hc i (by omega)]
    simp [List.getD_eq_getElem?_getD, List.getElem?_take_of_lt hi]
theorem SlB.lt {w : World} {a : Option Addr} {n c : Nat} {l : Bits} (h : SlB w a n c l) {x : Addr} (hx : a = some x) (hn : n ≠ 0) : x.block < w.heap.size := by
  rcases h.cel with h0 | ⟨b, o, rfl, hc⟩
  · exact absurd h0 hn
  · simp only [Option.some.injEq] at hx
    subst hx
    exact World.block_lt_of_cell? w _ (hc 0 (by omega))
theorem OwB.sl_at {w : World} {base e n c : Nat} {a : Option Addr} {l : Bits} (h : OwB w base e a c l) (hn : l.length = n) : SlB w a n c l := by subst hn; exact h.sl

/-- N bools as cells -/
def bcells (N : Nat) (c : Nat → Bool) : Array Value := (Array.range N).map fun i => Value.bool (c i)
theorem bcells_size (N : Nat) (c : Nat → Bool) : (bcells N c).size = N := by simp [bcells]
theorem bcells_get (N : Nat) (c : Nat → Bool) (i : Nat) (h : i < N) : (bcells N c)[i]? = some (.bool (c i)) := by simp [bcells, h]
theorem bcells_congr (N : Nat) {c c' : Nat → Bool} (h : ∀ i, i < N → c i = c' i) : bcells N c = bcells N c' := by
  unfold bcells
  apply Array.ext
  · simp
  · intro j h1 h2
    simp at h1
    simp [h j h1]
theorem bcells_one (N : Nat) (c : Nat → Bool) : ∀ v ∈ (bcells N c).toList, v.oneCell' = true := fun v hv => by
  simp only [bcells, Array.toList_map, List.mem_map] at hv
  obtain ⟨_, _, rfl⟩ := hv
  rfl
theorem bcells_false (n : Nat) : (List.replicate n (Value.bool false)).toArray = bcells n fun _ => false := by
  apply Array.ext
  · simp [bcells]
  · intro i h1 h2
    simp [bcells]
def upd (c : Nat → Bool) (i : Nat) (v : Bool) : Nat → Bool := fun j => if j = i then v else c j
theorem bcells_set (N : Nat) (c : Nat → Bool) (i : Nat) (v : Bool) : (bcells N c).setIfInBounds i (.bool v) = bcells N (upd c i v) := by
  apply Array.ext
  · simp [bcells]
  · intro j h1 h2
    simp only [bcells, Array.getElem_map, Array.getElem_range, upd]
    by_cases e : i = j
    · subst e; simp
    · rw [if_neg (fun x => e x.symm), Array.getElem_setIfInBounds_ne (by simpa [bcells] using h2) e]
      simp
/-- N bools lie in block g -/
def BoolsAt (w : World) (g T N : Nat) (c : Nat → Bool) : Prop := w.heap[g]? = some (.cells (bcells N c) T (0, 0))
section
variable {w : World} {g T N : Nat} {c : Nat → Bool}
theorem BoolsAt.cell (h : BoolsAt w g T N c) {i : Nat} (hi : i < N) : w.cell? ⟨g, i, none⟩ = some (.bool (c i)) := by
  have h1 : w.heap[g]? = _ := h
  simp only [World.cell?, h1]
  simpa using bcells_get N c i hi
theorem BoolsAt.fz (h : BoolsAt w g T N c) (i : Nat) : w.frozen? ⟨g, i, none⟩ = false := by
  have h1 : w.heap[g]? = _ := h
  simp [World.frozen?, h1]
theorem BoolsAt.lt (h : BoolsAt w g T N c) : g < w.heap.size := (Array.getElem?_eq_some_iff.1 h).1
theorem BoolsAt.keep {S : List Nat} {w' : World} (h : BoolsAt w g T N c) (hf : Fr S w w') (hg : g ∉ S) : BoolsAt w' g T N c := hf.obj h hg
theorem BoolsAt.set (h : BoolsAt w g T N c) {i : Nat} (v : Bool) : BoolsAt (w.setCell ⟨g, i, none⟩ (.bool v)) g T N (upd c i v) := by
  show _ = _
  rw [heap_setCell_same h, bcells_set]
theorem BoolsAt.other (h : BoolsAt w g T N c) {g' i : Nat} (hg : g ≠ g') (v : Value) : BoolsAt (w.setCell ⟨g', i, none⟩ v) g T N c := by
  show _ = _
  rw [Below.heap_setCell _ _ _ _ hg]
  exact h
theorem BoolsAt.congr (h : BoolsAt w g T N c) {c' : Nat → Bool} (he : ∀ i, i < N → c i = c' i) : BoolsAt w g T N c' := by
  show _ = _
  rw [← bcells_congr N he]
  exact h
theorem BoolsAt.new (w : World) (T N : Nat) (c : Nat → Bool) : BoolsAt (w.alloc (.cells (bcells N c) T)) w.heap.size T N c := Go.heap_alloc_new w _
theorem BoolsAt.alloc (h : BoolsAt w g T N c) (o : Obj) : BoolsAt (w.alloc o) g T N c := h.keep ((Fr.refl [] w).alloc o) (by simp)
end
end Go.Sha
end

section
namespace Go.Sha
open Go.RowKit
section
variable {P : Program} {w : World}
theorem wpList_alloc_row {ops : Array Oper} {rest : List Oper} {o : Oper} {a : Act} {Q : Exit → Act → World → Prop} (hgd : o.guard = none) (t : TypeId) (ho : o.op = .alloc t)
    (cs : Array Value) (hz : ((P.info? t).bind (·.zero)).map (·.cells) = some cs) (h : wpList P ops Q rest (a.put o.dst (.pointer (some ⟨w.heap.size, 0, none⟩))) (w.alloc (.cells cs t))) : wpList P ops Q (o :: rest) a w := by
  refine wpList_plain hgd fun K hK => ?_
  cases hi : P.info? t with
  | none => rw [hi] at hz; cases hz
  | some i =>
    rw [hi] at hz
    cases hz0 : i.zero with
    | none => simp [hz0] at hz
    | some z =>
      simp [hz0] at hz
      subst hz
      unfold Oper.wp execOp
      simp only [ho, Instr.alloc, zeroValue, typeInfo, newVar, newRow, Sem.run_bind, Sem.run_pure, Result.andThen_ok, run_program, hi, hz0, run_newObj_alloc]
      exact hK _ _ h
theorem wpList_box_row {ops : Array Oper} {rest : List Oper} {o : Oper} {a : Act} {Q : Exit → Act → World → Prop} (hgd : o.guard = none) (t : TypeId) (x : Operand) (ho : o.op = .box t x)
    (cs : Array Value) (hx : a.eval x = .agg cs) (h : wpList P ops Q rest (a.put o.dst (.pointer (some ⟨w.heap.size, 0, none⟩))) (w.alloc (.cells cs t))) : wpList P ops Q (o :: rest) a w := by
  refine wpList_plain hgd fun K hK => ?_
  unfold Oper.wp execOp
  simp only [ho, hx, Instr.box, newVar, newRow, Value.cells, Sem.run_bind, Sem.run_pure, Result.andThen_ok, run_newObj_alloc]
  exact hK _ _ h
theorem wpList_store_bits {ops : Array Oper} {rest : List Oper} {o : Oper} {a : Act} {Q : Exit → Act → World → Prop} (hgd : o.guard = none) (ty : TypeId) (x y : Operand) (ho : o.op = .store ty x y)
    (g : Nat) (hx : a.eval x = .pointer (some ⟨g, 0, none⟩)) (t : TypeId) (cs cur : Array Value) (hy : a.eval y = .agg cs) (hg : w.heap[g]? = some (.cells cur t (0, 0))) (hs : cs.size = cur.size)
    (h1 : ∀ v ∈ cs.toList, v.oneCell' = true) (hi : (P.info? ty).map (·.size) = some cs.size) (h : wpList P ops Q rest (a.put o.dst undef) (w.setRow g cs)) : wpList P ops Q (o :: rest) a w := by
  refine wpList_plain hgd fun K hK => ?_
  cases hj : P.info? ty with
  | none => rw [hj] at hi; cases hi
  | some i =>
    rw [hj] at hi
    simp only [Option.map_some, Option.some.injEq] at hi
    have hst := run_storeCells_at P g 0 t cs.toList 0 cur w hg (by simp [hs]) h1
    have e : (List.take (0 + 0) cur.toList ++ cs.toList ++ List.drop (0 + 0 + cs.toList.length) cur.toList).toArray = cs := by
      rw [List.drop_of_length_le (by simp [hs])]
      simp
    rw [e] at hst
    unfold Oper.wp execOp
    simp only [ho, hx, hy, Instr.storeAt, Instr.sureAddr, storeVar, sizeOf, typeInfo, Value.cells, Sem.run_bind, Sem.run_pure, Result.andThen_ok, run_program, hj, hi, ne_eq, not_true_eq_false, if_false, hst]
    exact hK _ _ h
/-- a step of a head that changes nothing, by its run -/
theorem wpStill_run {ops : Array Oper} {rest : List Oper} {o : Oper} {a : Act} {Q : Act → Prop} {v : Value} (hgd : o.guard = none) (hr : (execOp a.eval o).run P w = .ok (.value v) w) (h : wpStill P ops w Q rest (a.put o.dst v)) : wpStill P ops w Q (o :: rest) a := by
  refine wpStill_step fun K hK => ?_
  simp only [Region.wanted, hgd, if_true, Oper.still, hr, Oper.stillUpon_value]
  exact hK _ h
/-- a guarded step that is not wanted -/
theorem wpStill_skip {ops : Array Oper} {rest : List Oper} {o : Oper} {a : Act} {Q : Act → Prop} (hw : Region.wanted o (yielded ops a.tmps) = false) (h : wpStill P ops w Q rest (a.put o.dst undef)) : wpStill P ops w Q (o :: rest) a := by
  refine wpStill_step fun K hK => ?_
  rw [hw]
  simp only [Bool.false_eq_true, if_false]
  exact hK _ h
theorem wpStill_skip_at {ops : Array Oper} {rest : List Oper} {o : Oper} {a : Act} {Q : Act → Prop} (j t : Nat) (b : Bool) (hg : o.guard = some (j, b)) (hj : (ops[j]?).bind (·.dst) = some t) (ht : a.tmps[t]? = some (.bool (!b))) (h : wpStill P ops w Q rest (a.put o.dst undef)) : wpStill P ops w Q (o :: rest) a := by
  refine wpStill_skip ?_ h
  simp only [Region.wanted, hg, yielded, hj, Option.bind_some, ht]
  cases b <;> rfl
end
/-- a counter up to m, and what holds at its place -/
def InRel (R : Nat → World → Prop) (m : Nat) (f : Nat → Nat) (i : Value) (wr : World) : Prop := ∃ k : Nat, k ≤ m ∧ i = .int .i64 k ∧ R (f k) wr
theorem InRel.mk {R : Nat → World → Prop} {m : Nat} {f : Nat → Nat} {wr : World} {i : Value} (k j : Nat) (hk : k ≤ m) (hi : i = .int .i64 k) (hj : f k = j) (h : R j wr) : InRel R m f i wr := ⟨k, hk, hi, hj ▸ h⟩
theorem InRel.succ {R : Nat → World → Prop} {m : Nat} {f : Nat → Nat} {wr : World} {k : Nat} (hk : k < m) (hf : f (k + 1) = f k + 1) (h : R (f k + 1) wr) : InRel R m f (.int .i64 ((k : Int) + 1)) wr ∧ m - (intOf (.int .i64 ((k : Int) + 1))).toNat < m - (intOf (.int .i64 (k : Int))).toNat := ⟨⟨k + 1, hk, by simp, hf ▸ h⟩, by simp only [intOf]; omega⟩
/-- N bools, as one value -/
def aggB (N : Nat) (c : Nat → Bool) : Value := .agg (bcells N c)
theorem aggB_congr (N : Nat) {c c' : Nat → Bool} (h : ∀ i, i < N → c i = c' i) : aggB N c = aggB N c' := by
  unfold aggB
  rw [bcells_congr N h]
theorem BoolsAt.setRow {w : World} {g T N : Nat} {c : Nat → Bool} (h : BoolsAt w g T N c) (c' : Nat → Bool) : BoolsAt (w.setRow g (bcells N c')) g T N c' := setRow_heap _ _ _ _ _ _ h
end Go.Sha
end

section
namespace Go.Proofs.Ytkijnpjefccepaa
open Go.ChangeShapes Go.WideShapes Go.ChangeAt Go.RowKit Go.Sha

theorem tmod_add_emod (n m : Int) (hm : 0 < m) : (n.tmod m + m) % m = n % m := by
  rw [Int.add_emod_right]
  rw [Int.tmod_eq_emod]
  split
  · simp
  · have h : ((m.natAbs : Nat) : Int) = m := by omega
    rw [h, Int.sub_emod_right, Int.emod_emod_of_dvd _ (Int.dvd_refl m)]

theorem mod_any (n m : Int) (w : World) (h0 : 0 < m) (h1 : m ≤ 4611686018427387904) :
    Calls Try.prog 31 #[.int .i64 n, .int .i64 m] w fun e w' => e = .returned (.int .i64 (n % m)) ∧ w' = w := by
  have ht1 := Int.tmod_lt_of_pos n h0
  have ht2 : -m < n.tmod m := Int.lt_tmod_of_pos n h0
  have hm : ¬ m = 0 := by omega
  have hmz : (m == 0) = false := by rw [beq_eq_false_iff_ne]; exact hm
  go_enter Try.func31, Try.ntmps31
  go_wp2
  go_ret
  exact ⟨ret_int (tmod_add_emod n m h0), rfl⟩
theorem mod_nat (n m : Int) (k : Nat) (w : World) (h0 : 0 < m) (h1 : m ≤ 4611686018427387904) (hk : n % m = (k : Int)) :
    Calls Try.prog 31 #[.int .i64 n, .int .i64 m] w fun e w' => e = .returned (.int .i64 (k : Int)) ∧ w' = w := by
  have := mod_any n m w h0 h1
  rwa [hk] at this
theorem zero68r : ((Try.prog.info? 99).bind (·.zero)).map (·.cells) = some (List.replicate 1600 (Value.bool false)).toArray := by kernel_rfl
theorem zero68 : ((Try.prog.info? 99).bind (·.zero)).map (·.cells) = some (bcells 1600 fun _ => false) := by rw [zero68r, bcells_false]
theorem size68 : (Try.prog.info? 99).map (·.size) = some 1600 := by kernel_rfl
end Go.Proofs.Ytkijnpjefccepaa
end

section
namespace Go.Sha
open Go.RowKit
section
variable {P : Program} {w : World}
theorem BoolsAt.part_run {g T N : Nat} {c : Nat → Bool} (h : BoolsAt w g T N c) (o n : Nat) (hn : o + n ≤ N) (ty : TypeId) (d : TypeDesc) (hu : P.underlying ty = some d) (hd : d.isRow = true) (hi : (P.info? ty).map (·.size) = some n) :
    (loadVar ty ⟨g, o, none⟩).run P w = .ok (.agg (bcells n fun i => c (o + i))) w := by
  have := run_loadVar_mid (P := P) w g o ty (bcells n fun i => c (o + i)).toList d (fun j v hv => by
    have hj : j < n := by
      have h1 := (List.getElem?_eq_some_iff.1 hv).1
      simpa [bcells_size] using h1
    rw [h.cell (i := o + j) (by omega)]
    rw [Array.getElem?_toList, bcells_get _ _ _ hj] at hv
    exact hv) hu hd (by simpa [bcells_size] using hi)
  simpa using this
theorem wpStill_load_part {ops : Array Oper} {rest : List Oper} {o : Oper} {a : Act} {Q : Act → Prop} (hgd : o.guard = none) (ty : TypeId) (x : Operand) (ho : o.op = .load ty x) (g off : Nat) (hx : a.eval x = .pointer (some ⟨g, off, none⟩))
    {T N : Nat} {c : Nat → Bool} (hb : BoolsAt w g T N c) (n : Nat) (hn : off + n ≤ N) (d : TypeDesc) (hu : P.underlying ty = some d) (hd : d.isRow = true) (hi : (P.info? ty).map (·.size) = some n)
    (h : wpStill P ops w Q rest (a.put o.dst (.agg (bcells n fun i => c (off + i))))) : wpStill P ops w Q (o :: rest) a := by
  refine wpStill_run hgd ?_ h
  unfold execOp
  simp only [ho, hx, Instr.loadAt, Instr.sureAddr, Sem.run_bind, Sem.run_pure, Result.andThen_ok, hb.part_run off n hn ty d hu hd hi]
theorem wpList_alloc_rowAt {ops : Array Oper} {rest : List Oper} {o : Oper} {a : Act} {Q : Exit → Act → World → Prop} (hgd : o.guard = none) (t : TypeId) (ho : o.op = .alloc t)
    (cs : Array Value) (hz : ((P.info? t).bind (·.zero)).map (·.cells) = some cs) (g : Nat) (hs : w.heap.size = g) (h : wpList P ops Q rest (a.put o.dst (.pointer (some ⟨g, 0, none⟩))) (w.alloc (.cells cs t))) : wpList P ops Q (o :: rest) a w := by
  subst hs
  exact wpList_alloc_row hgd t ho cs hz h
/-- a part of a row, stored -/
def updN (c : Nat → Bool) (o n : Nat) (v : Nat → Bool) : Nat → Bool := fun i => if o ≤ i ∧ i < o + n then v (i - o) else c i
theorem bcells_splice (N o n : Nat) (c v : Nat → Bool) (hn : o + n ≤ N) : (List.take o (bcells N c).toList ++ (bcells n v).toList ++ List.drop (o + n) (bcells N c).toList).toArray = bcells N (updN c o n v) := by
  apply Array.ext'
  apply List.ext_getElem?
  intro i
  have hs : ∀ (N : Nat) (c : Nat → Bool), (bcells N c).toList.length = N := fun N c => by simp [bcells_size]
  have hg : ∀ (N : Nat) (c : Nat → Bool) (i : Nat), (bcells N c).toList[i]? = if i < N then some (.bool (c i)) else none := fun N c i => by
    rw [Array.getElem?_toList]
    by_cases h : i < N
    · rw [if_pos h, bcells_get _ _ _ h]
    · rw [if_neg h, Array.getElem?_eq_none (by rw [bcells_size]; omega)]
  have ht : (List.take o (bcells N c).toList).length = o := by rw [List.length_take, hs]; omega
  have ht2 : (List.take o (bcells N c).toList ++ (bcells n v).toList).length = o + n := by rw [List.length_append, ht, hs]
  show (List.take o (bcells N c).toList ++ (bcells n v).toList ++ List.drop (o + n) (bcells N c).toList)[i]? = _
  rw [hg]
  by_cases h1 : i < o
  · rw [List.getElem?_append_left (by omega), List.getElem?_append_left (by omega), List.getElem?_take_of_lt h1, hg, if_pos (by omega), if_pos (by omega)]
    simp only [updN]
    rw [if_neg (by omega)]
  · by_cases h2 : i < o + n
    · rw [List.getElem?_append_left (by omega), List.getElem?_append_right (by omega), ht, hg, if_pos (by omega), if_pos (by omega)]
      simp only [updN]
      rw [if_pos (by omega)]
    · rw [List.getElem?_append_right (by omega), ht2, List.getElem?_drop, hg, show o + n + (i - (o + n)) = i by omega]
      by_cases h3 : i < N
      · rw [if_pos h3, if_pos h3]
        simp only [updN]
        rw [if_neg (by omega)]
      · rw [if_neg h3, if_neg h3]
theorem wpList_store_part {ops : Array Oper} {rest : List Oper} {o : Oper} {a : Act} {Q : Exit → Act → World → Prop} (hgd : o.guard = none) (ty : TypeId) (x y : Operand) (ho : o.op = .store ty x y)
    (g off : Nat) (hx : a.eval x = .pointer (some ⟨g, off, none⟩)) {T N n : Nat} {c v : Nat → Bool} (hy : a.eval y = .agg (bcells n v)) (hg : BoolsAt w g T N c) (hn : off + n ≤ N)
    (hi : (P.info? ty).map (·.size) = some n) (h : wpList P ops Q rest (a.put o.dst undef) (w.setRow g (bcells N (updN c off n v)))) : wpList P ops Q (o :: rest) a w := by
  refine wpList_plain hgd fun K hK => ?_
  cases hj : P.info? ty with
  | none => rw [hj] at hi; cases hi
  | some i =>
    rw [hj] at hi
    simp only [Option.map_some, Option.some.injEq] at hi
    have hst := run_storeCells_at P g off T (bcells n v).toList 0 (bcells N c) w hg (by simp [bcells_size]; omega) (bcells_one _ _)
    have e : (List.take (off + 0) (bcells N c).toList ++ (bcells n v).toList ++ List.drop (off + 0 + (bcells n v).toList.length) (bcells N c).toList).toArray = bcells N (updN c off n v) := by
      rw [show (bcells n v).toList.length = n by simp [bcells_size]]
      exact bcells_splice N off n c v hn
    rw [e] at hst
    unfold Oper.wp execOp
    simp only [ho, hx, hy, Instr.storeAt, Instr.sureAddr, storeVar, sizeOf, typeInfo, Value.cells, Sem.run_bind, Sem.run_pure, Result.andThen_ok, run_program, hj, hi, bcells_size, ne_eq, not_true_eq_false, if_false, hst]
    exact hK _ _ h
end
theorem BoolsAt.other_row {w : World} {g g' T N : Nat} {c : Nat → Bool} (h : BoolsAt w g T N c) (hg : g ≠ g') (cs : Array Value) : BoolsAt (w.setRow g' cs) g T N c := by
  unfold BoolsAt at *
  rw [setRow_other _ _ _ _ hg]
  exact h
end Go.Sha
end
