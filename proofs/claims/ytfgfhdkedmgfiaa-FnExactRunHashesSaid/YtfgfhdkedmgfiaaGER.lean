/- Contracts and lemmas, merged: Rx, RxL, RxO. Their conditions stand in each. -/
import Derived.Test.YtfgfhdkedmgfiaaGA
import Derived.Test.YtfgfhdkedmgfiaaGB
import Derived.Test.YtfgfhdkedmgfiaaGC
import Derived.Test.YtfgfhdkedmgfiaaGG
import Derived.Test.YtfgfhdkedmgfiaaGH
import Derived.Test.YtfgfhdkedmgfiaaGS
import Derived.Lib.OwnKind
section
namespace Go.Sha
open Go.RowKit Go.Lib
abbrev V3 := Option Addr × Nat × Nat
/-- bytes in a block of bytes -/
structure Sb (U : Nat) (w : World) (v : V3) (l : Bs) : Prop where
  sl : Sl w v.1 v.2.1 v.2.2 l
  tg : ∀ x, v.1 = some x → v.2.1 ≠ 0 → ∃ cur fz, w.heap[x.block]? = some (.cells cur U fz)
theorem Sb.nil (U : Nat) (w : World) : Sb U w (none, 0, 0) [] := ⟨⟨rfl, Nat.le_refl _, by simp [maxLen], .inl rfl⟩, fun x hx => by cases hx⟩
theorem Sb.keep {U : Nat} {S : List Nat} {w w' : World} {v : V3} {l : Bs} (h : Sb U w v l) (hf : Fr S w w') (hS : ∀ k ∈ S, ∀ cur fz, w.heap[k]? ≠ some (.cells cur U fz)) : Sb U w' v l := by
  have hn : ∀ x, v.1 = some x → v.2.1 ≠ 0 → x.block ∉ S := fun x hx h0 hm => by
    obtain ⟨cur, fz, e⟩ := h.tg x hx h0
    exact hS _ hm cur fz e
  refine ⟨h.sl.keep hf hn, fun x hx h0 => ?_⟩
  obtain ⟨cur, fz, e⟩ := h.tg x hx h0
  exact ⟨cur, fz, hf.obj e (hn x hx h0)⟩
theorem Sb.keep0 {U : Nat} {w w' : World} {v : V3} {l : Bs} (h : Sb U w v l) (hf : Fr [] w w') : Sb U w' v l := h.keep hf (by simp)
theorem Ow.sb {U : Nat} {w : World} {base n c : Nat} {a : Option Addr} {l : Bs} (h : Ow w base U a c l) (hn : l.length = n) : Sb U w (a, n, c) l := by
  subst hn
  refine ⟨h.sl, fun x hx _ => ?_⟩
  obtain ⟨cur, fz, e⟩ := ownsRow_kind h x.block (by show (Value.slice a l.length c).ownBlock = _; rw [show a = some x from hx]; rfl)
  exact ⟨cur, fz, e⟩
/-- a part of bytes -/
theorem Sb.drop {U : Nat} {w : World} {g n c : Nat} {l : Bs} (h : Sb U w (some ⟨g, 0, none⟩, n, c) l) (k : Nat) (hk : k ≤ n) (h0 : n ≠ 0) : Sb U w (some ⟨g, k, none⟩, n - k, c - k) (l.drop k) := by
  have h1 := h.sl.len
  have h2 := h.sl.cap
  have h3 := h.sl.max
  simp only at h1 h2 h3
  refine ⟨⟨by simp; omega, by simp only; omega, by simp only; omega, ?_⟩, fun x hx hn => ?_⟩
  · rcases h.sl.cel with h4 | ⟨b', o', e, hc⟩
    · exact absurd h4 h0
    · simp only [Option.some.injEq, Addr.mk.injEq] at e
      obtain ⟨rfl, rfl, _⟩ := e
      refine .inr ⟨g, k, rfl, fun i hi => ?_⟩
      simp only at hi
      have := hc (k + i) (by simp only; omega)
      rw [Nat.zero_add] at this
      rw [this]
      simp [List.getD_eq_getElem?_getD]
  · obtain ⟨cur, fz, e⟩ := h.tg ⟨g, 0, none⟩ rfl h0
    simp only [Option.some.injEq] at hx
    subst hx
    exact ⟨cur, fz, e⟩
theorem flatMap_getN {α β : Type} (f : α → List β) (sz : Nat) (hf : ∀ x, (f x).length = sz) (l : List α) (i j : Nat) (hj : j < sz) : (l.flatMap f)[i * sz + j]? = (l[i]?).bind fun x => (f x)[j]? := by
  induction l generalizing i with
  | nil => simp
  | cons x l ih =>
    rw [List.flatMap_cons]
    cases i with
    | zero => rw [List.getElem?_append_left (by rw [hf]; omega)]; simp
    | succ i => rw [List.getElem?_append_right (by rw [hf, Nat.succ_mul]; omega), hf, show (i + 1) * sz + j - sz = i * sz + j by rw [Nat.succ_mul]; omega, ih]; simp
theorem flatMap_setN {α β : Type} (f : α → List β) (sz : Nat) (hf : ∀ x, (f x).length = sz) (l : List α) (i j : Nat) (hj : j < sz) (x x' : α) (u : β) (hx : l[i]? = some x) (hu : f x' = (f x).set j u) : (l.flatMap f).set (i * sz + j) u = (l.set i x').flatMap f := by
  induction l generalizing i with
  | nil => simp at hx
  | cons y l ih =>
    cases i with
    | zero =>
      simp only [List.getElem?_cons_zero, Option.some.injEq] at hx
      subst hx
      rw [List.flatMap_cons, List.set_cons_zero, List.flatMap_cons, List.set_append, if_pos (by rw [hf]; omega), hu, Nat.zero_mul, Nat.zero_add]
    | succ i =>
      rw [List.flatMap_cons, List.set_cons_succ, List.flatMap_cons, List.set_append, if_neg (by rw [hf, Nat.succ_mul]; omega), hf, show (i + 1) * sz + j - sz = i * sz + j by rw [Nat.succ_mul]; omega, ih i (by simpa using hx)]
/-- a store into a row that is owned -/
theorem ownsRow_set {w : World} {base e sz n c g : Nat} {xs : List Value} (h : w.ownsRow base e sz (.slice (some ⟨g, 0, none⟩) n c) n xs) (k : Nat) (u : Value) : (w.setCell ⟨g, k, none⟩ u).ownsRow base e sz (.slice (some ⟨g, 0, none⟩) n c) n (xs.set k u) := by
  obtain ⟨h1, h2⟩ := h
  refine ⟨by simpa using h1, ?_⟩
  rcases h2 with ⟨h3, _⟩ | ⟨g', cap, cur, hv, hb, hg, hn, hm, hs, ht⟩
  · simp at h3
  · simp only [Value.slice.injEq, Option.some.injEq, Addr.mk.injEq] at hv
    obtain ⟨⟨rfl, _, _⟩, _, rfl⟩ := hv
    refine .inr ⟨g, c, cur.setIfInBounds k u, rfl, hb, heap_setCell_same hg u, hn, hm, by simpa using hs, ?_⟩
    rw [Array.toList_setIfInBounds, List.take_set, ht]
section
variable {α : Type}
/-- out: results; row 1: what has been written; row 2: what has been saved -/
structure RxI (U ST RT sz : Nat) (dat : α → Bs) (cel : α × V3 → List Value) (w : World) (base : Nat) (ao : Option Addr) (co : Nat) (PO : List (Res × V3)) (a1 : Option Addr) (c1 : Nat) (P1 : List (α × V3)) (a2 : Option Addr) (c2 : Nat) (P2 : List (α × V3)) : Prop where
  ro : w.ownsRow base RT 4 (.slice ao PO.length co) PO.length (PO.flatMap rqCells)
  r1 : w.ownsRow base ST sz (.slice a1 P1.length c1) P1.length (P1.flatMap cel)
  r2 : w.ownsRow base ST sz (.slice a2 P2.length c2) P2.length (P2.flatMap cel)
  so : ∀ p ∈ PO, Sb U w p.2 p.1.data
  s1 : ∀ p ∈ P1, Sb U w p.2 (dat p.1)
  s2 : ∀ p ∈ P2, Sb U w p.2 (dat p.1)
  d12 : ∀ x y, a1 = some x → a2 = some y → x.block ≠ y.block
variable {U ST RT sz : Nat} {dat : α → Bs} {cel : α × V3 → List Value} {w : World} {base : Nat} {ao a1 a2 : Option Addr} {co c1 c2 : Nat} {PO : List (Res × V3)} {P1 P2 : List (α × V3)}
theorem row_tag {e n c : Nat} {a : Option Addr} {xs : List Value} (h : w.ownsRow base e sz (.slice a n c) n xs) : ∀ k ∈ blkOf a, base ≤ k ∧ k < w.heap.size ∧ ∃ cur fz, w.heap[k]? = some (.cells cur e fz) := fun k hk => by
  obtain ⟨x, hx, rfl⟩ := mem_blkOf.1 hk
  have e1 : (Value.slice a n c).ownBlock = some x.block := by rw [hx]; rfl
  exact ⟨(ownsRow_lt h e1).1, (ownsRow_lt h e1).2, ownsRow_kind h _ e1⟩
theorem tag_ne {b e e' : Nat} {cur cur' : Array Value} {fz fz' : Nat × Nat} (h : w.heap[b]? = some (.cells cur e fz)) (h' : w.heap[b]? = some (.cells cur' e' fz')) : e = e' := by
  rw [h] at h'
  simp only [Option.some.injEq, Obj.cells.injEq] at h'
  exact h'.2.1
/-- blocks turn that are none of the rows and hold no bytes -/
theorem RxI.keep {w' : World} {S : List Nat} (h : RxI U ST RT sz dat cel w base ao co PO a1 c1 P1 a2 c2 P2) (hf : Fr S w w') (hS : ∀ k ∈ S, k ∉ blkOf ao ∧ k ∉ blkOf a1 ∧ k ∉ blkOf a2 ∧ ∀ cur fz, w.heap[k]? ≠ some (.cells cur U fz)) : RxI U ST RT sz dat cel w' base ao co PO a1 c1 P1 a2 c2 P2 := by
  have hb : ∀ k ∈ S, ∀ cur fz, w.heap[k]? ≠ some (.cells cur U fz) := fun k hk => (hS k hk).2.2.2
  refine ⟨ownsRow_keep h.ro hf (fun k hk hm => ?_), ownsRow_keep h.r1 hf (fun k hk hm => ?_), ownsRow_keep h.r2 hf (fun k hk hm => ?_), fun p hp => (h.so p hp).keep hf hb, fun p hp => (h.s1 p hp).keep hf hb, fun p hp => (h.s2 p hp).keep hf hb, h.d12⟩
  · obtain ⟨x, hx, rfl⟩ := ownBlock_some hk; exact (hS _ hm).1 (mem_blkOf.2 ⟨x, hx, rfl⟩)
  · obtain ⟨x, hx, rfl⟩ := ownBlock_some hk; exact (hS _ hm).2.1 (mem_blkOf.2 ⟨x, hx, rfl⟩)
  · obtain ⟨x, hx, rfl⟩ := ownBlock_some hk; exact (hS _ hm).2.2.1 (mem_blkOf.2 ⟨x, hx, rfl⟩)
theorem RxI.keep0 {w' : World} (h : RxI U ST RT sz dat cel w base ao co PO a1 c1 P1 a2 c2 P2) (hf : Fr [] w w') : RxI U ST RT sz dat cel w' base ao co PO a1 c1 P1 a2 c2 P2 := h.keep hf (by simp)
/-- a variable of a result turns -/
theorem RxI.keepR {w' : World} {gr : Nat} {cur : Array Value} {fz : Nat × Nat} (h : RxI U ST RT sz dat cel w base ao co PO a1 c1 P1 a2 c2 P2) (hf : Fr [gr] w w') (hg : w.heap[gr]? = some (.cells cur RT fz)) (hao : gr ∉ blkOf ao) (h1 : RT ≠ ST) (h2 : RT ≠ U) : RxI U ST RT sz dat cel w' base ao co PO a1 c1 P1 a2 c2 P2 := by
  refine h.keep hf (fun k hk => ?_)
  simp only [List.mem_cons, List.not_mem_nil, or_false] at hk
  subst hk
  refine ⟨hao, fun hm => ?_, fun hm => ?_, fun cur' fz' e => h2 (tag_ne hg e)⟩
  · obtain ⟨_, _, c', f', e⟩ := row_tag h.r1 _ hm; exact h1 (tag_ne hg e)
  · obtain ⟨_, _, c', f', e⟩ := row_tag h.r2 _ hm; exact h1 (tag_ne hg e)
theorem grownRw {wB wC : World} {a : Option Addr} {n c : Nat} (hgr : wB.grownBy wC (Value.slice a n c).ownBlock) : Fr (blkOf a) wB wC := by
  rw [← ownBlock_blkOf a n c]
  exact (Fr.refl _ _).grown hgr (fun k hk => by rw [hk]; exact .inr (by simp))
/-- one result more -/
theorem RxI.pushO {wB wC : World} {a' : Option Addr} {c' : Nat} (h : RxI U ST RT sz dat cel w base ao co PO a1 c1 P1 a2 c2 P2) (hf : Fr [] w wB) (p : Res × V3) (hs : Sb U w p.2 p.1.data) (h1 : RT ≠ ST) (h2 : RT ≠ U) (ho : wC.ownsRow base RT 4 (.slice a' (PO.length + 1) c') (PO.length + 1) (PO.flatMap rqCells ++ rqCells p)) (hgr : wB.grownBy wC (Value.slice ao PO.length co).ownBlock) :
    RxI U ST RT sz dat cel wC base a' c' (PO ++ [p]) a1 c1 P1 a2 c2 P2 := by
  have hB := h.keep0 hf
  have fC := grownRw hgr
  have tO := row_tag hB.ro
  have hb : ∀ k ∈ blkOf ao, ∀ cur fz, wB.heap[k]? ≠ some (.cells cur U fz) := fun k hk cur fz e => by
    obtain ⟨_, _, c', f', e'⟩ := tO k hk
    exact h2 (tag_ne e' e)
  have hr : ∀ {a : Option Addr} {n c : Nat} {xs : List Value}, wB.ownsRow base ST sz (.slice a n c) n xs → ∀ k, (Value.slice a n c).ownBlock = some k → k ∉ blkOf ao := fun {a n c xs} hw k hk hm => by
    obtain ⟨_, _, c', f', e'⟩ := tO k hm
    obtain ⟨c2, f2, e2⟩ := ownsRow_kind hw k hk
    exact h1 (tag_ne e' e2)
  refine ⟨by simpa using ho, ownsRow_keep hB.r1 fC (hr hB.r1), ownsRow_keep hB.r2 fC (hr hB.r2), fun q hq => ?_, fun q hq => (hB.s1 q hq).keep fC hb, fun q hq => (hB.s2 q hq).keep fC hb, h.d12⟩
  rcases List.mem_append.1 hq with hq | hq
  · exact (hB.so q hq).keep fC hb
  · simp only [List.mem_cons, List.not_mem_nil, or_false] at hq
    subst hq
    exact (hs.keep0 hf).keep fC hb
/-- one more in row 1 -/
theorem RxI.push1 {wB wC : World} {a' : Option Addr} {c' : Nat} (h : RxI U ST RT sz dat cel w base ao co PO a1 c1 P1 a2 c2 P2) (hf : Fr [] w wB) (p : α × V3) (hs : Sb U w p.2 (dat p.1)) (h1 : RT ≠ ST) (h2 : ST ≠ U) (ho : wC.ownsRow base ST sz (.slice a' (P1.length + 1) c') (P1.length + 1) (P1.flatMap cel ++ cel p)) (hgr : wB.grownBy wC (Value.slice a1 P1.length c1).ownBlock) (ha : a' = a1 ∨ a' = some ⟨wB.heap.size, 0, none⟩) :
    RxI U ST RT sz dat cel wC base ao co PO a' c' (P1 ++ [p]) a2 c2 P2 := by
  have hB := h.keep0 hf
  have fC := grownRw hgr
  have tO := row_tag hB.r1
  have hb : ∀ k ∈ blkOf a1, ∀ cur fz, wB.heap[k]? ≠ some (.cells cur U fz) := fun k hk cur fz e => by
    obtain ⟨_, _, c', f', e'⟩ := tO k hk
    exact h2 (tag_ne e' e)
  refine ⟨ownsRow_keep hB.ro fC (fun k hk hm => ?_), by simpa using ho, ownsRow_keep hB.r2 fC (fun k hk hm => ?_), fun q hq => (hB.so q hq).keep fC hb, fun q hq => ?_, fun q hq => (hB.s2 q hq).keep fC hb, fun x y hx hy => ?_⟩
  · obtain ⟨_, _, c', f', e'⟩ := tO k hm
    obtain ⟨c2, f2, e2⟩ := ownsRow_kind hB.ro k hk
    exact h1 (tag_ne e2 e')
  · obtain ⟨y, hy, rfl⟩ := ownBlock_some hk
    obtain ⟨x, hx, e⟩ := mem_blkOf.1 hm
    exact h.d12 x y hx hy e
  · rcases List.mem_append.1 hq with hq | hq
    · exact (hB.s1 q hq).keep fC hb
    · simp only [List.mem_cons, List.not_mem_nil, or_false] at hq
      subst hq
      exact (hs.keep0 hf).keep fC hb
  · rcases ha with rfl | rfl
    · exact h.d12 x y hx hy
    · simp only [Option.some.injEq] at hx
      subst hx
      have := (row_tag hB.r2 y.block (mem_blkOf.2 ⟨y, hy, rfl⟩)).2.1
      simp only
      omega
/-- one more in row 2 -/
theorem RxI.push2 {wB wC : World} {a' : Option Addr} {c' : Nat} (h : RxI U ST RT sz dat cel w base ao co PO a1 c1 P1 a2 c2 P2) (hf : Fr [] w wB) (p : α × V3) (hs : Sb U w p.2 (dat p.1)) (h1 : RT ≠ ST) (h2 : ST ≠ U) (ho : wC.ownsRow base ST sz (.slice a' (P2.length + 1) c') (P2.length + 1) (P2.flatMap cel ++ cel p)) (hgr : wB.grownBy wC (Value.slice a2 P2.length c2).ownBlock) (ha : a' = a2 ∨ a' = some ⟨wB.heap.size, 0, none⟩) :
    RxI U ST RT sz dat cel wC base ao co PO a1 c1 P1 a' c' (P2 ++ [p]) := by
  have h' : RxI U ST RT sz dat cel w base ao co PO a2 c2 P2 a1 c1 P1 := ⟨h.ro, h.r2, h.r1, h.so, h.s2, h.s1, fun x y hx hy e => h.d12 y x hy hx e.symm⟩
  have := h'.push1 hf p hs h1 h2 ho hgr ha
  exact ⟨this.ro, this.r2, this.r1, this.so, this.s2, this.s1, fun x y hx hy e => this.d12 y x hy hx e.symm⟩
/-- one of row 1 turns -/
theorem RxI.set1 {wC : World} (h : RxI U ST RT sz dat cel w base ao co PO a1 c1 P1 a2 c2 P2) (fC : Fr (blkOf a1) w wC) (i : Nat) (p : α × V3) (hs : Sb U w p.2 (dat p.1)) (h1 : RT ≠ ST) (h2 : ST ≠ U) (hr : wC.ownsRow base ST sz (.slice a1 P1.length c1) P1.length ((P1.set i p).flatMap cel)) :
    RxI U ST RT sz dat cel wC base ao co PO a1 c1 (P1.set i p) a2 c2 P2 := by
  have tO := row_tag h.r1
  have hb : ∀ k ∈ blkOf a1, ∀ cur fz, w.heap[k]? ≠ some (.cells cur U fz) := fun k hk cur fz e => by
    obtain ⟨_, _, c', f', e'⟩ := tO k hk
    exact h2 (tag_ne e' e)
  refine ⟨ownsRow_keep h.ro fC (fun k hk hm => ?_), by rw [List.length_set]; exact hr, ownsRow_keep h.r2 fC (fun k hk hm => ?_), fun q hq => (h.so q hq).keep fC hb, fun q hq => ?_, fun q hq => (h.s2 q hq).keep fC hb, h.d12⟩
  · obtain ⟨_, _, c', f', e'⟩ := tO k hm
    obtain ⟨c2, f2, e2⟩ := ownsRow_kind h.ro k hk
    exact h1 (tag_ne e2 e')
  · obtain ⟨y, hy, rfl⟩ := ownBlock_some hk
    obtain ⟨x, hx, e⟩ := mem_blkOf.1 hm
    exact h.d12 x y hx hy e
  · rcases List.mem_or_eq_of_mem_set hq with hq | rfl
    · exact (h.s1 q hq).keep fC hb
    · exact hs.keep fC hb
/-- the cells of one of a row -/
theorem row_cell {e n c : Nat} {a : Option Addr} {P : List (α × V3)} (hcel : ∀ p, (cel p).length = sz) (h : w.ownsRow base e sz (.slice a n c) n (P.flatMap cel)) (hl : P.length = n) {i : Nat} (hi : i < n) :
    ∃ g, a = some ⟨g, 0, none⟩ ∧ n ≤ c ∧ c ≤ maxLen ∧ ∃ p, p ∈ P ∧ P[i]? = some p ∧ ∀ j, j < sz → w.cell? ⟨g, i * sz + j, none⟩ = (cel p)[j]? ∧ w.frozen? ⟨g, i * sz + j, none⟩ = false := by
  have hx : P[i]? = some P[i] := List.getElem?_eq_getElem (by omega)
  rcases h.2 with ⟨_, h0⟩ | ⟨g, cap, cur, hv, hb', hg, hn, hm, hs, ht⟩
  · omega
  · have hrow := h
    simp only [Value.slice.injEq] at hv
    obtain ⟨rfl, _, rfl⟩ := hv
    refine ⟨g, rfl, hn, hm, P[i], List.getElem_mem _, hx, fun j hj => ⟨?_, by simp [World.frozen?, hg]⟩⟩
    have e1 := flatMap_getN cel sz hcel P i j hj
    rw [hx, Option.bind_some] at e1
    have e2 : (cel P[i])[j]? = some ((cel P[i])[j]'(by rw [hcel]; exact hj)) := List.getElem?_eq_getElem _
    rw [e2] at e1 ⊢
    have := hrow.cells (g := g) rfl (i * sz + j) _ e1
    have hadd : (⟨g, 0, none⟩ : Addr).add (i * sz + j) = ⟨g, i * sz + j, none⟩ := by unfold Addr.add; split <;> simp_all
    rwa [hadd] at this
/-- the results can be read -/
theorem RxI.read (h : RxI U ST RT sz dat cel w base ao co PO a1 c1 P1 a2 c2 P2) : RsR w ao PO.length co (PO.map (·.1)) := by
  rcases h.ro.2 with ⟨h3, h0⟩ | ⟨g, cap, cur, hv, hb', hg, hnn, hm, hs, ht⟩
  · simp only [Value.slice.injEq] at h3
    exact ⟨by simp, by omega, by rw [h3.2.2]; simp [maxLen], .inl h0⟩
  · simp only [Value.slice.injEq] at hv
    refine ⟨by simp, by rw [hv.2.2]; exact hnn, by rw [hv.2.2]; exact hm, ?_⟩
    by_cases hn : PO.length = 0
    · exact .inl hn
    · refine .inr ⟨g, 0, hv.1, fun i hi => ?_⟩
      have hx : PO[i]? = some PO[i] := List.getElem?_eq_getElem hi
      have hd : (PO.map (·.1)).getD i ⟨0, [], false, false⟩ = PO[i].1 := by simp [List.getD_eq_getElem?_getD, hx]
      have hc : ∀ j, j < 4 → w.cell? ⟨g, 0 + 4 * i + j, none⟩ = (rqCells PO[i])[j]? := fun j hj => by
        have e1 := flatMap_getN rqCells 4 (fun _ => rfl) PO i j hj
        rw [hx, Option.bind_some] at e1
        have e2 : (rqCells PO[i])[j]? = some ((rqCells PO[i])[j]'hj) := List.getElem?_eq_getElem _
        rw [e2] at e1 ⊢
        have := h.ro.cells (g := g) (by rw [hv.1]; rfl) (i * 4 + j) _ e1
        have hadd : (⟨g, 0, none⟩ : Addr).add (i * 4 + j) = ⟨g, i * 4 + j, none⟩ := by unfold Addr.add; split <;> simp_all
        rw [hadd] at this
        rwa [show 0 + 4 * i + j = i * 4 + j by omega]
      rw [hd]
      exact ⟨_, _, _, hc 0 (by decide), hc 1 (by decide), hc 2 (by decide), hc 3 (by decide), (h.so PO[i] (List.getElem_mem hi)).sl⟩
end
end Go.Sha
end

section
namespace Go.Sha
open Go.RowKit
section
variable {P : Program} {w : World}
/-- a store of cells at a place of a block -/
theorem wpList_store_at {ops : Array Oper} {rest : List Oper} {o : Oper} {a : Act} {Q : Exit → Act → World → Prop} (hgd : o.guard = none) (ty : TypeId) (x y : Operand) (ho : o.op = .store ty x y)
    (g off : Nat) (hx : a.eval x = .pointer (some ⟨g, off, none⟩)) (t : TypeId) (v : Value) (cs : List Value) (cur new : Array Value) (hy : a.eval y = v) (hvc : v.cells.toList = cs) (hg : w.heap[g]? = some (.cells cur t (0, 0))) (hs : off + cs.length ≤ cur.size)
    (h1 : ∀ u ∈ cs, u.oneCell' = true) (hi : (P.info? ty).map (·.size) = some cs.length) (hnew : (cur.toList.take off ++ cs ++ cur.toList.drop (off + cs.length)).toArray = new) (h : wpList P ops Q rest (a.put o.dst undef) (w.setRow g new)) : wpList P ops Q (o :: rest) a w := by
  refine wpList_plain hgd fun K hK => ?_
  cases hj : P.info? ty with
  | none => rw [hj] at hi; cases hi
  | some i =>
    rw [hj] at hi
    simp only [Option.map_some, Option.some.injEq] at hi
    have hst := run_storeCells_at P g off t cs 0 cur w hg (by simpa using hs) h1
    rw [Nat.add_zero, hnew] at hst
    have hsz : v.cells.size = cs.length := by rw [← hvc]; simp
    unfold Oper.wp execOp
    simp only [ho, hx, hy, Instr.storeAt, Instr.sureAddr, storeVar, sizeOf, typeInfo, Sem.run_bind, Sem.run_pure, Result.andThen_ok, run_program, hj, hi, hsz, hvc, ne_eq, not_true_eq_false, if_false, hst]
    exact hK _ _ h
end
theorem take_splice (X cs : List Value) (off N : Nat) (h : off + cs.length ≤ N) (hN : N ≤ X.length) : (X.take off ++ cs ++ X.drop (off + cs.length)).take N = (X.take N).take off ++ cs ++ (X.take N).drop (off + cs.length) := by
  have e1 : (X.take N).take off = X.take off := by rw [List.take_take, Nat.min_eq_left (by omega)]
  have e2 : (X.take N).drop (off + cs.length) = (X.drop (off + cs.length)).take (N - (off + cs.length)) := by rw [List.drop_take]
  have hl : (X.take off ++ cs).length = off + cs.length := by simp; omega
  rw [e1, e2, List.take_append, hl, List.take_of_length_le (by rw [hl]; exact h)]
theorem flatMap_splice {α : Type} (f : α → List Value) (sz : Nat) (hf : ∀ x, (f x).length = sz) (l : List α) (i j : Nat) (cs : List Value) (hj : j + cs.length ≤ sz) (x x' : α) (hx : l[i]? = some x) (hu : f x' = (f x).take j ++ cs ++ (f x).drop (j + cs.length)) :
    (l.flatMap f).take (i * sz + j) ++ cs ++ (l.flatMap f).drop (i * sz + j + cs.length) = (l.set i x').flatMap f := by
  induction l generalizing i with
  | nil => simp at hx
  | cons y l ih =>
    cases i with
    | zero =>
      simp only [List.getElem?_cons_zero, Option.some.injEq] at hx
      subst hx
      have hy := hf y
      rw [List.flatMap_cons, List.set_cons_zero, List.flatMap_cons, hu, Nat.zero_mul, Nat.zero_add, List.take_append_of_le_length (by omega), List.drop_append_of_le_length (by omega)]
      simp
    | succ i =>
      have hy := hf y
      have h1 := ih i (by simpa using hx)
      rw [List.flatMap_cons, List.set_cons_succ, List.flatMap_cons, ← h1]
      have e1 : (i + 1) * sz + j = (f y).length + (i * sz + j) := by rw [hy, Nat.succ_mul]; omega
      rw [e1, List.take_length_add_append, show (f y).length + (i * sz + j) + cs.length = (f y).length + (i * sz + j + cs.length) by omega, List.drop_length_add_append]
      simp
section
variable {α : Type} {U ST RT sz : Nat} {dat : α → Bs} {cel : α × V3 → List Value} {w : World} {base : Nat} {ao a2 : Option Addr} {co c1 c2 g1 : Nat} {PO : List (Res × V3)} {P1 P2 : List (α × V3)}
/-- the block of row 1 -/
theorem RxI.cur1 (h : RxI U ST RT sz dat cel w base ao co PO (some ⟨g1, 0, none⟩) c1 P1 a2 c2 P2) : ∃ cur, w.heap[g1]? = some (.cells cur ST (0, 0)) ∧ P1.length * sz ≤ cur.size := by
  rcases h.r1.2 with ⟨h3, _⟩ | ⟨g', cap, cur, hv, hb, hg, hn, hm, hs, ht⟩
  · simp at h3
  · simp only [Value.slice.injEq, Option.some.injEq, Addr.mk.injEq] at hv
    obtain ⟨⟨rfl, _, _⟩, _, rfl⟩ := hv
    exact ⟨cur, hg, by rw [hs]; exact Nat.mul_le_mul_right _ hn⟩
/-- a store into one of row 1 -/
theorem RxI.store1 (h : RxI U ST RT sz dat cel w base ao co PO (some ⟨g1, 0, none⟩) c1 P1 a2 c2 P2) (hcel : ∀ p, (cel p).length = sz) {cur : Array Value} (hcur : w.heap[g1]? = some (.cells cur ST (0, 0))) (i j : Nat) (cs : List Value) (hj : j + cs.length ≤ sz) (s0 s1 : α × V3) (hs0 : P1[i]? = some s0) (hu : cel s1 = (cel s0).take j ++ cs ++ (cel s0).drop (j + cs.length)) (hs : Sb U w s1.2 (dat s1.1)) (h1 : RT ≠ ST) (h2 : ST ≠ U) (new : Array Value) (hnew : (cur.toList.take (i * sz + j) ++ cs ++ cur.toList.drop (i * sz + j + cs.length)).toArray = new) :
    RxI U ST RT sz dat cel (w.setRow g1 new) base ao co PO (some ⟨g1, 0, none⟩) c1 (P1.set i s1) a2 c2 P2 := by
  have fC : Fr (blkOf (some ⟨g1, 0, none⟩)) w (w.setRow g1 new) := (Fr.refl _ _).setRow _ _ (.inr (mem_blkOf.2 ⟨_, rfl, rfl⟩))
  refine h.set1 fC i s1 hs h1 h2 ?_
  have hi : i < P1.length := (List.getElem?_eq_some_iff.1 hs0).1
  have hn2 : i * sz + sz ≤ P1.length * sz := by rw [← Nat.succ_mul]; exact Nat.mul_le_mul_right _ hi
  obtain ⟨r1, r2⟩ := h.r1
  rcases r2 with ⟨h3, _⟩ | ⟨g', cap, cur', hv, hb, hg, hn, hm, hs', ht⟩
  · simp at h3
  · simp only [Value.slice.injEq, Option.some.injEq, Addr.mk.injEq] at hv
    obtain ⟨⟨rfl, _, _⟩, _, rfl⟩ := hv
    rw [hcur] at hg
    simp only [Option.some.injEq, Obj.cells.injEq, and_true] at hg
    subst hg
    have hle : P1.length * sz ≤ cur.size := by rw [hs']; exact Nat.mul_le_mul_right _ hn
    have hx : (P1.set i s1).flatMap cel = (P1.flatMap cel).take (i * sz + j) ++ cs ++ (P1.flatMap cel).drop (i * sz + j + cs.length) := (flatMap_splice cel sz hcel P1 i j cs hj s0 s1 hs0 hu).symm
    refine ⟨?_, .inr ⟨g1, c1, new, rfl, hb, ?_, hn, hm, ?_, ?_⟩⟩
    · have : (P1.flatMap cel).length = P1.length * sz := by simpa using r1
      rw [hx]
      simp only [List.length_append, List.length_take, List.length_drop, this]
      omega
    · exact setRow_heap _ _ _ _ _ _ hcur
    · rw [← hnew]
      simp only [List.size_toArray, List.length_append, List.length_take, List.length_drop, Array.length_toList]
      omega
    · rw [← hnew, List.toList_toArray, take_splice _ _ _ _ (by omega) (by simpa using hle), ht, hx]
end
/-- four cells of a block, one behind the other -/
theorem fr4 (w : World) (g : Nat) (v0 v1 v2 v3 : Value) : Fr [g] w ((((w.setCell ⟨g, 0, none⟩ v0).setCell ⟨g, 1, none⟩ v1).setCell ⟨g, 2, none⟩ v2).setCell ⟨g, 3, none⟩ v3) :=
  ((((Fr.refl _ _).setCell _ _ (.inr (by simp))).setCell _ _ (.inr (by simp))).setCell _ _ (.inr (by simp))).setCell _ _ (.inr (by simp))
theorem heap4 {w : World} {g T : Nat} {x0 x1 x2 x3 : Value} {fz : Nat × Nat} (h : w.heap[g]? = some (.cells #[x0, x1, x2, x3] T fz)) (v0 v1 v2 v3 : Value) : ((((w.setCell ⟨g, 0, none⟩ v0).setCell ⟨g, 1, none⟩ v1).setCell ⟨g, 2, none⟩ v2).setCell ⟨g, 3, none⟩ v3).heap[g]? = some (.cells #[v0, v1, v2, v3] T fz) :=
  heap_setCell_same (heap_setCell_same (heap_setCell_same (heap_setCell_same h v0) v1) v2) v3
end Go.Sha
end

section
namespace Go.Proofs.Ytfgfhdkedmgfiaa
open Go.ChangeShapes Go.WideShapes Go.ChangeAt Go.RowKit Go.Sha
theorem sown_n (a0 : Option Addr) (n c : Nat) (l : Bs) (w : World) (h : Sl w a0 n c l) (hn : n ≤ 140737488355328) :
    Calls Try.prog 49 #[.slice a0 n c] w fun e w' => ∃ a c', e = .returned (.slice a n c') ∧ Ow w' w.heap.size 5 a c' l ∧ Fr [] w w' := by
  obtain ⟨i0, hi, hz0, hz1, hz2⟩ := info_parts info5
  have f1 : Fr [] w (w.alloc (.cells #[] 5)) := (Fr.refl _ _).alloc _
  have O1 : Hid ((w.alloc (.cells #[] 5)).ownsRow w.heap.size 5 1 (.slice (some ⟨w.heap.size, 0, none⟩) 0 0) 0 []) := ⟨rfl, .inr ⟨w.heap.size, 0, #[], rfl, Nat.le_refl _, Go.heap_alloc_new w _, by simp, by simp [maxLen], rfl, rfl⟩⟩
  have S1 := Lib.hid (h.keep0 f1)
  have HL := Lib.hid h.len
  obtain ⟨ys, hys⟩ : ∃ ys, ys = l.map bv := ⟨_, rfl⟩
  have Y1 : Hid (Src Try.prog 1 22 (.slice a0 n c) n ys (w.alloc (.cells #[] 5))) := by rw [hys]; exact S1.out.src Try.underlying22
  have X1 : Hid (0 + n ≤ maxLen) := by show _ ≤ _; unfold maxLen; omega
  have X2 : Hid ((0 + n) * 1 ≤ 140737488355328) := by show _ ≤ _; omega
  have X3 : Hid (w.heap.size ≤ (w.alloc (.cells #[] 5)).heap.size) := f1.size
  have HYS := Lib.hid hys
  clear h hys
  go_enter Try.func49, Try.ntmps49
  go_wp2_with (at_builtin; refine wpList_append_src _ rfl _ _ 22 22 rfl w.heap.size 5 i0 (.int .u8 0) 1 1 Try.underlying22 hi hz0 hz1 hz2 rfl (some ⟨w.heap.size, 0, none⟩) 0 0 [] rfl O1.out _ n ys rfl Y1.out X1.out X2.out X3.out ?_)
  intro a2 c2 w2 ho hg
  have F2 : Fr [] w w2 := f1.grown hg (fun q hq => .inl (by simp [Value.ownBlock] at hq; omega))
  rw [HYS.out] at ho
  have O2 : Ow w2 w.heap.size 5 a2 c2 l := Ow.of ho HL.out.symm rfl
  have H2 := Lib.hid O2
  clear ho hg O2 O1 Y1 X1 X2 X3
  go_wp2_with fail
  go_ret
  exact ⟨a2, c2, rfl, H2.out, F2⟩
theorem sjoined_any (a0 b0 : Option Addr) (n m ca cb : Nat) (x y : Bs) (w : World) (hx : Sl w a0 n ca x) (hy : Sl w b0 m cb y) (hn : n + m ≤ 140737488355328) :
    Calls Try.prog 48 #[.slice a0 n ca, .slice b0 m cb] w fun e w' => ∃ a c, e = .returned (.slice a (n + m) c) ∧ Ow w' w.heap.size 5 a c (x ++ y) ∧ Fr [] w w' := by
  obtain ⟨i0, hi, hz0, hz1, hz2⟩ := info_parts info5
  have HX := Lib.hid hx
  have HY := Lib.hid hy
  clear hx hy
  go_enter Try.func48, Try.ntmps48
  go_wp2_with fail
  refine (sown_n a0 n ca x w HX.out (by omega)).mono ?_
  rintro e w1 ⟨a1, c1, rfl, o1, f1⟩
  obtain ⟨xs, hxs⟩ : ∃ xs, xs = x.map bv := ⟨_, rfl⟩
  obtain ⟨ys, hys⟩ : ∃ ys, ys = y.map bv := ⟨_, rfl⟩
  have O1 : Hid (w1.ownsRow w.heap.size 5 1 (.slice a1 n c1) n xs) := by rw [hxs]; exact Ow.row' o1 HX.out.len
  have Y1 : Hid (Src Try.prog 1 22 (.slice b0 m cb) m ys w1) := by rw [hys]; exact (HY.out.keep0 f1).src Try.underlying22
  have HO := Lib.hid o1
  have HXY := Lib.hid (And.intro hxs hys)
  have X1 : Hid (n + m ≤ maxLen) := by show _ ≤ _; unfold maxLen; omega
  have X2 : Hid ((n + m) * 1 ≤ 140737488355328) := by show _ ≤ _; omega
  have X3 : Hid (w.heap.size ≤ w1.heap.size) := f1.size
  clear hxs hys o1
  go_wp2_with (at_builtin; refine wpList_append_src _ rfl _ _ 22 22 rfl w.heap.size 5 i0 (.int .u8 0) 1 1 Try.underlying22 hi hz0 hz1 hz2 rfl a1 n c1 xs rfl O1.out _ m ys rfl Y1.out X1.out X2.out X3.out ?_)
  intro a2 c2 w2 ho hg
  have F2 : Fr [] w w2 := f1.grown hg (fun q hq => .inl (HO.out.own_ge (n := n) q (by rw [hq]; simp)))
  have O2 : Ow w2 w.heap.size 5 a2 c2 (x ++ y) := Ow.of ho (by rw [List.length_append, HX.out.len, HY.out.len]) (by rw [HXY.out.1, HXY.out.2, List.map_append])
  have H2 := Lib.hid O2
  clear ho hg O2 O1 Y1 X1 X2 X3
  go_wp2_with fail
  go_ret
  exact ⟨a2, c2, rfl, H2.out, F2⟩
end Go.Proofs.Ytfgfhdkedmgfiaa
end
