/- Contracts and lemmas, merged: OpenS, BulkS. Their conditions stand in each. -/
import Derived.Test.YtfgfhdkedmgfiaaGA
import Derived.Test.YtfgfhdkedmgfiaaGB
import Derived.Test.YtfgfhdkedmgfiaaGC
import Derived.Test.YtfgfhdkedmgfiaaGG
import Derived.Test.YtfgfhdkedmgfiaaGH
import Derived.Deep.Slices
section
namespace Go.Sha
open Go.RowKit Go.ChangeShapes Go.WideShapes Go.ChangeAt

section
variable {H : Type} {enc : TypeId × Value → H} {P : Program} {w : World}
/-- what a datum says of the calls that it was read from -/
def DSt (d : DataW H) (len cap : Nat) (xs : List Actn) : Prop :=
  (d = .nil ∧ len = 0 ∧ cap = 0) ∨ ∃ (D : Nat → DataW H) (sp : List (DataW H)), d = .slice ((List.range len).map D) sp ∧ len + sp.length = cap ∧ ∀ i, i < len → ∃ d0 d1 d2 d3 nd cd, D i = .agg [d0, d1, d2, d3] ∧ DLen d3 nd cd ∧ (xs.getD i ⟨0, 0, 0, []⟩).data.length = nd
/-- calls that came in -/
structure StI (w : World) (a : Option Addr) (n c : Nat) (xs : List Actn) (d : DataW H) : Prop where
  len : xs.length = n
  cap : n ≤ c
  max : c ≤ maxLen
  dat : DSt d n c xs
  cel : n = 0 ∨ ∃ b o, a = some ⟨b, o, none⟩ ∧ ∀ i, i < n → ∃ ad nd cd, w.cell? ⟨b, o + 4 * i, none⟩ = some (.int .i64 (xs.getD i ⟨0, 0, 0, []⟩).k) ∧ w.cell? ⟨b, o + 4 * i + 1, none⟩ = some (.int .i64 (xs.getD i ⟨0, 0, 0, []⟩).at_) ∧ w.cell? ⟨b, o + 4 * i + 2, none⟩ = some (.int .i64 (xs.getD i ⟨0, 0, 0, []⟩).pick) ∧ w.cell? ⟨b, o + 4 * i + 3, none⟩ = some (.slice ad nd cd) ∧ Sl w ad nd cd (xs.getD i ⟨0, 0, 0, []⟩).data
theorem StI.acts {a : Option Addr} {len cap : Nat} {xs : List Actn} {d : DataW H} (h : StI w a len cap xs d) (hb : ∀ i, i < len → (xs.getD i ⟨0, 0, 0, []⟩).data.length ≤ 140737488351232) : ActsAt w a len cap xs := by
  refine ⟨h.len, h.cap, h.max, ?_⟩
  rcases h.cel with h0 | ⟨b, o, rfl, hc⟩
  · exact .inl h0
  · refine .inr ⟨b, o, rfl, fun i hi => ?_⟩
    obtain ⟨ad, nd, cd, h1, h2, h3, h4, h5⟩ := hc i hi
    exact ⟨ad, nd, cd, h1, h2, h3, h4, h5, by rw [← h5.len]; exact hb i hi⟩
instance : Inhabited Actn := ⟨⟨0, 0, 0, []⟩⟩
theorem addr_add (b o : Nat) (i : Nat) : (⟨b, o, none⟩ : Addr).add i = ⟨b, o + i, none⟩ := by unfold Addr.add; split <;> simp_all
theorem open_steps {t e tu : TypeId} {f0 f1 f2 f3 : Field} {base fuel len cap : Nat} {held : Bool} {a : Option Addr} {d : DataW H} {p : List MemPlace}
    (ht : P.underlying t = some (.slice e)) (he : P.underlying e = some (.struct #[f0, f1, f2, f3])) (ce : P.cellsOf e = 4)
    (o0 : f0.offset = 0) (o1 : f1.offset = 1) (o2 : f2.offset = 2) (o3 : f3.offset = 3) (c0 : P.cellsOf f0.type = 1) (c1 : P.cellsOf f1.type = 1) (c2 : P.cellsOf f2.type = 1) (c3 : P.cellsOf f3.type = 1)
    (u0 : P.underlying f0.type = some (.int .i64)) (u1 : P.underlying f1.type = some (.int .i64)) (u2 : P.underlying f2.type = some (.int .i64)) (u3 : P.underlying f3.type = some (.slice tu)) (uu : P.underlying tu = some (.int .u8)) (cu : P.cellsOf tu = 1)
    (h : DataW.trod enc P w base (fun _ => true) held fuel t (Value.slice a len cap).cells.toList = some (d, p)) : ∃ xs, StI w a len cap xs d := by
  rcases Deep.open_slice ht h with ⟨hcs, hx⟩ | ⟨a', len', cap', m, n, D, Pl, hcs, hb, hl, hm, hmm, hx, hel⟩
  · simp [Value.cells] at hcs
    obtain ⟨rfl, rfl, rfl⟩ := hcs
    simp only [Prod.mk.injEq] at hx
    exact ⟨[], rfl, Nat.le_refl _, by simp [maxLen], .inl ⟨hx.1, rfl, rfl⟩, .inl rfl⟩
  · simp [Value.cells] at hcs
    obtain ⟨rfl, rfl, rfl⟩ := hcs
    simp only [if_true] at hmm
    subst hmm
    simp only [Prod.mk.injEq] at hx
    have each : ∀ i, i < len → ∃ x : Actn, ∃ ad nd cd d0 d1 d2 d3, w.cell? (a'.add (i * 4 + 0)) = some (.int .i64 x.k) ∧ w.cell? (a'.add (i * 4 + 1)) = some (.int .i64 x.at_) ∧ w.cell? (a'.add (i * 4 + 2)) = some (.int .i64 x.pick) ∧ w.cell? (a'.add (i * 4 + 3)) = some (.slice ad nd cd) ∧ Sl w ad nd cd x.data ∧ D i = .agg [d0, d1, d2, d3] ∧ DLen d3 nd cd := by
      intro i hi
      obtain ⟨cs', h1, h2⟩ := hel i (by omega)
      rw [ce] at h1
      obtain ⟨_, hlen, hcell⟩ := World.cells?_some h1
      obtain ⟨xs, k, hk, hxy, _, hxl, hf⟩ := DataW.trod_struct he h2
      match xs, hxl, cs', hlen with
      | [y0, y1, y2, y3], _, [v0, v1, v2, v3], _ =>
        have g0 := hf 0 f0 rfl
        have g1 := hf 1 f1 rfl
        have g2 := hf 2 f2 rfl
        have g3 := hf 3 f3 rfl
        simp [o0, o1, o2, o3, c0, c1, c2, c3] at g0 g1 g2 g3
        have e0 := hcell 0 (by omega)
        have e1 := hcell 1 (by omega)
        have e2 := hcell 2 (by omega)
        have e3 := hcell 3 (by omega)
        rw [Deep.add_add] at e0 e1 e2 e3
        simp only [Prod.mk.injEq] at hxy
        obtain ⟨z0, hz0, hy0, _⟩ := DataW.trod_int u0 g0
        obtain ⟨z1, hz1, hy1, _⟩ := DataW.trod_int u1 g1
        obtain ⟨z2, hz2, hy2, _⟩ := DataW.trod_int u2 g2
        simp only [List.cons.injEq, and_true] at hz0 hz1 hz2
        subst hz0 hz1 hz2
        obtain ⟨ad, nd, cd, rfl⟩ : ∃ ad nd cd, v3 = .slice ad nd cd := by
          rcases Deep.open_slice u3 g3 with ⟨hc3, _⟩ | ⟨q, l3, k3, _, _, _, _, hc3, _⟩
          · simp only [List.cons.injEq, and_true] at hc3
            exact ⟨_, _, _, hc3⟩
          · simp only [List.cons.injEq, and_true] at hc3
            exact ⟨_, _, _, hc3⟩
        obtain ⟨d3, p3⟩ := y3
        obtain ⟨l3, s3, dl3⟩ := open_bytes u3 uu cu (show DataW.trod enc P w base (fun _ => true) held k f3.type (Value.slice ad nd cd).cells.toList = some (d3, p3) from g3)
        exact ⟨⟨z0, z1, z2, l3⟩, ad, nd, cd, y0.1, y1.1, y2.1, d3, by simpa using e0, by simpa using e1, by simpa using e2, by simpa using e3, s3, by simpa using hxy.1, dl3⟩
    obtain ⟨X, hX⟩ := Deep.choose_lt each
    have hXi : ∀ i, i < len → ((List.range len).map X).getD i ⟨0, 0, 0, []⟩ = X i := fun i hi => by simp [List.getD_eq_getElem?_getD, hi]
    refine ⟨(List.range len).map X, ⟨by simp, hl, hm, .inr ⟨D, _, hx.1, by simp; omega, fun i hi => ?_⟩, ?_⟩⟩
    · obtain ⟨ad, nd, cd, d0, d1, d2, d3, _, _, _, _, hs, hD, hd⟩ := hX i hi
      exact ⟨d0, d1, d2, d3, nd, cd, hD, hd, by rw [hXi i hi]; exact hs.len⟩
    · by_cases h0 : len = 0
      · exact .inl h0
      · right
        obtain ⟨b, o, s⟩ := a'
        have hs : s = none := by
          obtain ⟨ad, nd, cd, d0, d1, d2, d3, hc0, _⟩ := hX 0 (by omega)
          simp only [Nat.zero_mul, Nat.add_zero, Addr.add, if_true, World.cell?] at hc0
          cases s with
          | none => rfl
          | some _ =>
            exfalso
            revert hc0
            split <;> simp
        subst hs
        refine ⟨b, o, rfl, fun i hi => ?_⟩
        obtain ⟨ad, nd, cd, d0, d1, d2, d3, hc0, hc1, hc2, hc3, hs, _⟩ := hX i hi
        rw [addr_add] at hc0 hc1 hc2 hc3
        rw [hXi i hi]
        refine ⟨ad, nd, cd, ?_, ?_, ?_, ?_, hs⟩
        · rw [show o + 4 * i = o + (i * 4 + 0) by omega]; exact hc0
        · rw [show o + 4 * i + 1 = o + (i * 4 + 1) by omega]; exact hc1
        · rw [show o + 4 * i + 2 = o + (i * 4 + 2) by omega]; exact hc2
        · rw [show o + 4 * i + 3 = o + (i * 4 + 3) by omega]; exact hc3
theorem getD_memA {xs : List Actn} {n : Nat} (h : xs.length = n) (i : Nat) (hi : i < n) : xs.getD i ⟨0, 0, 0, []⟩ ∈ xs := by
  rw [List.getD_eq_getElem?_getD, List.getElem?_eq_getElem (by omega)]
  exact List.getElem_mem _
theorem getD_all {xs : List Actn} {n : Nat} {p : Actn → Prop} (h : xs.length = n) (hp : ∀ i, i < n → p (xs.getD i ⟨0, 0, 0, []⟩)) : ∀ x ∈ xs, p x := fun x hx => by
  obtain ⟨i, hi, rfl⟩ := List.getElem_of_mem hx
  have := hp i (by omega)
  rwa [List.getD_eq_getElem?_getD, List.getElem?_eq_getElem hi] at this
theorem weightsAll_mem {e : TypeId} {ds : List (DataW H)} {d : DataW H} (hd : d ∈ ds) : ∀ n ∈ d.weights P e, n ∈ DataW.weightsAll P e ds := by
  induction ds with
  | nil => cases hd
  | cons x ds ih =>
    intro n hn
    simp only [DataW.weightsAll, List.mem_append]
    rcases List.mem_cons.1 hd with rfl | hd
    · exact .inl hn
    · exact .inr (ih hd n hn)
theorem DSt.reach {d : DataW H} {len cap j : Nat} {xs : List Actn} {t e tu : TypeId} {f0 f1 f2 f3 : Field} {ts : List TypeId} {ds : List (DataW H)} (h : DSt d len cap xs) (hsz : (DataW.weightsEach P ts ds).all (· ≤ reachBytes) = true)
    (ht : ts[j]? = some t) (hd : ds[j]? = some d) (hu : P.underlying t = some (.slice e)) (hb : P.bytesOf e = 48) (he : P.underlying e = some (.struct #[f0, f1, f2, f3])) (u3 : P.underlying f3.type = some (.slice tu)) (hbu : P.bytesOf tu = 1) :
    len ≤ 2932031007317 ∧ ∀ i, i < len → (xs.getD i ⟨0, 0, 0, []⟩).data.length ≤ 140737488351232 := by
  rcases h with ⟨_, rfl, rfl⟩ | ⟨D, sp, rfl, h1, h2⟩
  · exact ⟨by omega, fun i hi => by omega⟩
  · have hw : ∀ n ∈ (DataW.slice ((List.range len).map D) sp).weights P t, n ≤ reachBytes := fun n hn => by
      have := List.all_eq_true.1 hsz _ (DataW.weights_mem_each ht hd n hn)
      simpa using this
    simp only [DataW.weights, hu] at hw
    refine ⟨?_, fun i hi => ?_⟩
    · have := hw _ List.mem_cons_self
      rw [hb] at this
      simp only [List.length_map, List.length_range, reachBytes] at this
      omega
    · obtain ⟨d0, d1, d2, d3, nd, cd, hD, hd3, hl⟩ := h2 i hi
      rw [hl]
      rcases hd3 with ⟨_, rfl, rfl⟩ | ⟨es, sp3, rfl, h3, h4⟩
      · omega
      · have := hw ((es.length + sp3.length) * P.bytesOf tu) (List.mem_cons_of_mem _ (List.mem_append_left _ (weightsAll_mem (d := D i) (List.mem_map_of_mem (List.mem_range.2 hi)) _ (by
          rw [hD]
          simp only [DataW.weights, he]
          exact DataW.weights_mem_each (j := 3) (t := f3.type) (d := .slice es sp3) rfl rfl _ (by simp [DataW.weights, u3])))))
        rw [hbu] at this
        simp only [reachBytes] at this
        omega
end
end Go.Sha
end

section
namespace Go.Proofs.Ytfgfhdkedmgfiaa
open Go.ChangeShapes Go.WideShapes Go.ChangeAt Go.RowKit Go.Sha
theorem bulkAll_append {H : Type} (x y : List (DataW H)) : Rows.uptoBulkAll (x ++ y) = Rows.uptoBulkAll x + Rows.uptoBulkAll y := by
  induction x with
  | nil => simp [Rows.uptoBulkAll]
  | cons d x ih => simp only [List.cons_append, Rows.uptoBulkAll, ih]; omega
/-- the calls and their bytes -/
def actsBulk (xs : List Actn) : Nat := (xs.map fun x => x.data.length + 1).sum
theorem bulk_range {H : Type} (D : Nat → DataW H) (f : Nat → Nat) (n : Nat) (h : ∀ i, i < n → f i ≤ Rows.uptoBulk (D i)) : ((List.range n).map f).sum ≤ Rows.uptoBulkAll ((List.range n).map D) := by
  induction n with
  | zero => simp
  | succ n ih =>
    have h1 := ih (fun i hi => h i (by omega))
    have h2 := h n (by omega)
    rw [List.range_succ, List.map_append, List.map_append, bulkAll_append, List.sum_append]
    simp only [List.map_cons, List.map_nil, List.sum_cons, List.sum_nil, Rows.uptoBulkAll]
    omega
theorem DSt_bulk {H : Type} {d : DataW H} {len cap : Nat} {xs : List Actn} (h : DSt d len cap xs) (hl : xs.length = len) : actsBulk xs ≤ Rows.uptoBulk d := by
  rcases h with ⟨rfl, rfl, rfl⟩ | ⟨D, sp, rfl, h1, h2⟩
  · rw [List.length_eq_zero_iff.1 hl]
    simp [actsBulk]
  · unfold actsBulk
    rw [Deep.map_by_index xs ⟨0, 0, 0, []⟩ (fun x => x.data.length + 1), hl]
    have h3 := bulk_range D (fun i => (xs.getD i ⟨0, 0, 0, []⟩).data.length + 1) len (fun i hi => by
      obtain ⟨d0, d1, d2, d3, nd, cd, hD, hd3, he⟩ := h2 i hi
      have h4 := DLen_bulk hd3
      rw [hD]
      simp only [Rows.uptoBulk, Rows.uptoBulkAll]
      omega)
    simp only [Rows.uptoBulk]
    omega
theorem actsBulk_len (xs : List Actn) : xs.length ≤ actsBulk xs := by
  unfold actsBulk
  induction xs with
  | nil => simp
  | cons x xs ih => simp only [List.map_cons, List.sum_cons, List.length_cons]; omega
theorem actsBulk_mem {xs : List Actn} {x : Actn} (h : x ∈ xs) : x.data.length ≤ actsBulk xs := by
  unfold actsBulk
  induction xs with
  | nil => cases h
  | cons y xs ih =>
    simp only [List.map_cons, List.sum_cons]
    rcases List.mem_cons.1 h with rfl | h
    · omega
    · have := ih h; omega
end Go.Proofs.Ytfgfhdkedmgfiaa
end
