/- A script of calls of hashes: RunHashes. No condition but on lengths. -/
import Derived.Test.YtjgdbamlaajkmaaAct
namespace Go.Sha
open Go.RowKit
def goH (r o : Nat) (s : List Res × List Bs × List Bs) (x : Actn) : List Res × List Bs × List Bs := (s.1 ++ [(stepH r o s.2.1 s.2.2 x).1], (stepH r o s.2.1 s.2.2 x).2)
def runS (r o : Nat) (xs : List Actn) : List Res × List Bs × List Bs := xs.foldl (goH r o) ([], [[]], [])
/-- the results of a script -/
def runH (r o : Nat) (xs : List Actn) : List Res := (runS r o xs).1
theorem runS_snoc (r o : Nat) (xs : List Actn) (x : Actn) : runS r o (xs ++ [x]) = goH r o (runS r o xs) x := by simp [runS]
theorem stepH_len (r o : Nat) (all saved : List Bs) (x : Actn) : all.length ≤ (stepH r o all saved x).2.1.length ∧ (stepH r o all saved x).2.1.length ≤ all.length + 1 ∧ (stepH r o all saved x).2.2.length ≤ saved.length + 1 := by
  unfold stepH
  split <;> try (simp; done)
  split <;> simp
theorem fold_len (r o : Nat) (xs : List Actn) : ∀ s : List Res × List Bs × List Bs, (xs.foldl (goH r o) s).1.length = s.1.length + xs.length ∧ s.2.1.length ≤ (xs.foldl (goH r o) s).2.1.length ∧ (xs.foldl (goH r o) s).2.1.length ≤ s.2.1.length + xs.length ∧ (xs.foldl (goH r o) s).2.2.length ≤ s.2.2.length + xs.length := by
  induction xs with
  | nil => intro s; simp
  | cons x xs ih =>
    intro s
    have h := stepH_len r o s.2.1 s.2.2 x
    have h2 := ih (goH r o s x)
    simp only [List.foldl_cons, List.length_cons]
    simp only [goH, List.length_append, List.length_cons, List.length_nil] at h2 ⊢
    omega
theorem runS_len (r o : Nat) (xs : List Actn) : (runS r o xs).1.length = xs.length ∧ 0 < (runS r o xs).2.1.length ∧ (runS r o xs).2.1.length ≤ xs.length + 1 ∧ (runS r o xs).2.2.length ≤ xs.length := by
  have h := fold_len r o xs ([], [[]], [])
  simp only [List.length_nil, List.length_cons] at h
  unfold runS
  omega
/-- a list of calls in memory -/
structure ActsAt (w : World) (a : Option Addr) (n c : Nat) (xs : List Actn) : Prop where
  len : xs.length = n
  cap : n ≤ c
  max : c ≤ maxLen
  cel : n = 0 ∨ ∃ b o, a = some ⟨b, o, none⟩ ∧ ∀ i, i < n → ∃ ad nd cd, w.cell? ⟨b, o + 4 * i, none⟩ = some (.int .i64 (xs.getD i ⟨0, 0, 0, []⟩).k) ∧ w.cell? ⟨b, o + 4 * i + 1, none⟩ = some (.int .i64 (xs.getD i ⟨0, 0, 0, []⟩).at_) ∧ w.cell? ⟨b, o + 4 * i + 2, none⟩ = some (.int .i64 (xs.getD i ⟨0, 0, 0, []⟩).pick) ∧ w.cell? ⟨b, o + 4 * i + 3, none⟩ = some (.slice ad nd cd) ∧ Sl w ad nd cd (xs.getD i ⟨0, 0, 0, []⟩).data ∧ nd ≤ 140737488351232
theorem ActsAt.keep {S : List Nat} {w w' : World} {a : Option Addr} {n c : Nat} {xs : List Actn} (h : ActsAt w a n c xs) (hf : Fr S w w') (hS : ∀ k ∈ S, w.heap.size ≤ k) : ActsAt w' a n c xs := by
  refine ⟨h.len, h.cap, h.max, ?_⟩
  rcases h.cel with h0 | ⟨b, o, rfl, hc⟩
  · exact .inl h0
  · refine .inr ⟨b, o, rfl, fun i hi => ?_⟩
    obtain ⟨ad, nd, cd, h1, h2, h3, h4, h5, h6⟩ := hc i hi
    have hb : b ∉ S := fun hm => by
      have := World.block_lt_of_cell? w _ h1
      have := hS b hm
      simp only at *
      omega
    exact ⟨ad, nd, cd, hf.cell h1 hb, hf.cell h2 hb, hf.cell h3 hb, hf.cell h4 hb, h5.keep hf (fun x hx hn hm => by have := h5.lt hx hn; have := hS _ hm; omega), h6⟩
/-- a result's cells -/
def resCells (p : Res × (Option Addr × Nat)) : List Value := [.int .i64 p.1.n, .slice p.2.1 p.1.data.length p.2.2, .bool p.1.ok, .bool p.1.pan]
/-- a list of results in memory of their own: each has its own block -/
structure RsI (RT U : Nat) (w : World) (base : Nat) (S : List Nat) (a : Option Addr) (n c : Nat) (rs : List Res) (vs : List (Option Addr × Nat)) : Prop where
  len : rs.length = n
  vlen : vs.length = n
  row : w.ownsRow base RT 4 (.slice a n c) n ((rs.zip vs).flatMap resCells)
  rowS : ∀ x, a = some x → x.block ∉ S
  own : ∀ i, i < n → Ow w base U (vs.getD i (none, 0)).1 (vs.getD i (none, 0)).2 (rs.getD i ⟨0, [], false, false⟩).data
  ownS : ∀ i, i < n → ∀ x, (vs.getD i (none, 0)).1 = some x → x.block ∉ S ∧ (∀ y, a = some y → x.block ≠ y.block)
  ne : ∀ i j, i < n → j < n → i ≠ j → ∀ x y, (vs.getD i (none, 0)).1 = some x → (vs.getD j (none, 0)).1 = some y → x.block ≠ y.block
theorem RsI.nil (RT U : Nat) (w : World) (base : Nat) (S : List Nat) : RsI RT U w base S none 0 0 [] [] :=
  ⟨rfl, rfl, World.ownsRow_nil _ _ _ _, (fun x hx => by cases hx), (fun i hi => by omega), (fun i hi => by omega), (fun i j hi => by omega)⟩
/-- a call of the script turns only the blocks of S -/
theorem RsI.keep {RT U : Nat} {w w' : World} {base : Nat} {S S' : List Nat} {a : Option Addr} {n c : Nat} {rs : List Res} {vs : List (Option Addr × Nat)} (h : RsI RT U w base S a n c rs vs) (hf : Fr S w w') (hS : ∀ k ∈ S', k ∈ S ∨ w.heap.size ≤ k) : RsI RT U w' base S' a n c rs vs := by
  have hout : ∀ k, k < w.heap.size → k ∉ S → k ∉ S' := fun k hk h1 h2 => by
    rcases hS k h2 with h3 | h3
    · exact h1 h3
    · omega
  refine ⟨h.len, h.vlen, ownsRow_keep h.row hf (fun k hk => ?_), fun x hx => ?_, fun i hi => ?_, fun i hi x hx => ⟨?_, (h.ownS i hi x hx).2⟩, h.ne⟩
  · obtain ⟨x, hx, rfl⟩ := ownBlock_some hk
    exact h.rowS x hx
  · exact hout _ (ownsRow_lt h.row (show (Value.slice a n c).ownBlock = some x.block by rw [hx]; rfl)).2 (h.rowS x hx)
  · have ho := h.own i hi
    obtain ⟨h1, h2⟩ := ho
    refine ⟨h1, ?_⟩
    rcases h2 with h2 | ⟨g, cap, cur, hv, hg, hh, r⟩
    · exact .inl h2
    · refine .inr ⟨g, cap, cur, hv, hg, hf.obj hh ?_, r⟩
      simp only [Value.slice.injEq] at hv
      exact (h.ownS i hi ⟨g, 0, none⟩ hv.1).1
  · have hb := h.own i hi
    rw [hx] at hb
    exact hout _ hb.block.2.2.2 (h.ownS i hi x hx).1
end Go.Sha
