/- Contracts and lemmas, merged: Qs, SmR. Their conditions stand in each. -/
import Derived.Test.YtfgfhdkedmgfiaaGA
import Derived.Test.YtfgfhdkedmgfiaaGB
import Derived.Test.YtfgfhdkedmgfiaaGC
import Derived.Test.YtfgfhdkedmgfiaaGG
import Derived.Test.YtfgfhdkedmgfiaaGH
import Derived.Deep.RegionHeld3
section
namespace Go.Sha
open Go.RowKit
/-- results that can be read -/
structure RsR (w : World) (a : Option Addr) (n c : Nat) (rs : List Res) : Prop where
  len : rs.length = n
  cap : n ≤ c
  max : c ≤ maxLen
  cel : n = 0 ∨ ∃ b o, a = some ⟨b, o, none⟩ ∧ ∀ i, i < n → ∃ ad nd cd, w.cell? ⟨b, o + 4 * i, none⟩ = some (.int .i64 (rs.getD i ⟨0, [], false, false⟩).n) ∧ w.cell? ⟨b, o + 4 * i + 1, none⟩ = some (.slice ad nd cd) ∧ w.cell? ⟨b, o + 4 * i + 2, none⟩ = some (.bool (rs.getD i ⟨0, [], false, false⟩).ok) ∧ w.cell? ⟨b, o + 4 * i + 3, none⟩ = some (.bool (rs.getD i ⟨0, [], false, false⟩).pan) ∧ Sl w ad nd cd (rs.getD i ⟨0, [], false, false⟩).data
theorem RsR.keep0 {w w' : World} {a : Option Addr} {n c : Nat} {rs : List Res} (h : RsR w a n c rs) (hf : Fr [] w w') : RsR w' a n c rs := by
  refine ⟨h.len, h.cap, h.max, ?_⟩
  rcases h.cel with h0 | ⟨b, o, rfl, hc⟩
  · exact .inl h0
  · refine .inr ⟨b, o, rfl, fun i hi => ?_⟩
    obtain ⟨ad, nd, cd, h1, h2, h3, h4, h5⟩ := hc i hi
    exact ⟨ad, nd, cd, hf.cell h1 (by simp), hf.cell h2 (by simp), hf.cell h3 (by simp), hf.cell h4 (by simp), h5.keep0 hf⟩
theorem RsI.read {RT U : Nat} {w : World} {base : Nat} {S : List Nat} {a : Option Addr} {n c : Nat} {rs : List Res} {vs : List (Option Addr × Nat)} (h : RsI RT U w base S a n c rs vs) : RsR w a n c rs := by
  rcases Nat.eq_zero_or_pos n with h0 | h0
  · have hl := h.len
    subst h0
    rcases h.row.2 with ⟨h3, _⟩ | ⟨g, cap, cur, hv, hb', hg, hnn, hm, hs, ht⟩
    · simp only [Value.slice.injEq] at h3
      exact ⟨hl, by omega, by rw [h3.2.2]; simp [maxLen], .inl rfl⟩
    · simp only [Value.slice.injEq] at hv
      exact ⟨hl, by omega, by rw [hv.2.2]; exact hm, .inl rfl⟩
  · obtain ⟨g, rfl, h1, h2, hc⟩ := h.cells h0
    refine ⟨h.len, h1, h2, .inr ⟨g, 0, rfl, fun i hi => ?_⟩⟩
    refine ⟨_, _, _, ?_, ?_, ?_, ?_, (h.own i hi).sl⟩
    · have := hc i hi 0 (by decide); simpa [resCells] using this
    · have := hc i hi 1 (by decide); simpa [resCells] using this
    · have := hc i hi 2 (by decide); simpa [resCells] using this
    · have := hc i hi 3 (by decide); simpa [resCells] using this
def rqCells (p : Res × (Option Addr × Nat × Nat)) : List Value := [.int .i64 p.1.n, .slice p.2.1 p.2.2.1 p.2.2.2, .bool p.1.ok, .bool p.1.pan]
/-- results that are being built: they own their row, and no result's bytes lie in it -/
structure QsI (RT : Nat) (w : World) (base : Nat) (a : Option Addr) (n c : Nat) (xs : List Res) (vs : List (Option Addr × Nat × Nat)) : Prop where
  len : xs.length = n
  vlen : vs.length = n
  row : w.ownsRow base RT 4 (.slice a n c) n ((xs.zip vs).flatMap rqCells)
  sl : ∀ i, i < n → Sl w (vs.getD i (none, 0, 0)).1 (vs.getD i (none, 0, 0)).2.1 (vs.getD i (none, 0, 0)).2.2 (xs.getD i ⟨0, [], false, false⟩).data
  ne : ∀ i, i < n → ∀ x, (vs.getD i (none, 0, 0)).1 = some x → (vs.getD i (none, 0, 0)).2.1 ≠ 0 → ∀ y, a = some y → x.block ≠ y.block
theorem QsI.nil (RT : Nat) (w : World) (base : Nat) : QsI RT w base none 0 0 [] [] :=
  ⟨rfl, rfl, World.ownsRow_nil _ _ _ _, (fun i hi => by omega), (fun i hi => by omega)⟩
theorem QsI.keep0 {RT : Nat} {w w' : World} {base : Nat} {a : Option Addr} {n c : Nat} {xs : List Res} {vs : List (Option Addr × Nat × Nat)} (h : QsI RT w base a n c xs vs) (hf : Fr [] w w') : QsI RT w' base a n c xs vs :=
  ⟨h.len, h.vlen, ownsRow_keep h.row hf (fun k hk => by simp), fun i hi => (h.sl i hi).keep0 hf, h.ne⟩
/-- one call more -/
theorem QsI.push {RT : Nat} {w wB wC : World} {base : Nat} {a a' : Option Addr} {n c c' : Nat} {xs : List Res} {vs : List (Option Addr × Nat × Nat)} (h : QsI RT w base a n c xs vs) {x : Res} {v : Option Addr × Nat × Nat} (hf : Fr [] w wB)
    (hO : Sl w v.1 v.2.1 v.2.2 x.data) (hv : ∀ y, v.1 = some y → v.2.1 ≠ 0 → ∀ z, a = some z → y.block ≠ z.block)
    (ho : wC.ownsRow base RT 4 (.slice a' (n + 1) c') (n + 1) ((xs.zip vs).flatMap rqCells ++ rqCells (x, v))) (hgr : wB.grownBy wC (Value.slice a n c).ownBlock) (ha : a' = a ∨ a' = some ⟨wB.heap.size, 0, none⟩) :
    QsI RT wC base a' (n + 1) c' (xs ++ [x]) (vs ++ [v]) := by
  have fBC : Fr (blkOf a) wB wC := by
    rw [← ownBlock_blkOf a n c]
    exact (Fr.refl _ _).grown hgr (fun k hk => by rw [hk]; exact .inr (by simp))
  have hsz := hf.size
  have keepSl : ∀ {ad : Option Addr} {nd cd : Nat} {l : Bs}, Sl w ad nd cd l → (∀ y, ad = some y → nd ≠ 0 → ∀ z, a = some z → y.block ≠ z.block) → Sl wC ad nd cd l := fun {ad nd cd l} hw hne =>
    (hw.keep0 hf).keep fBC (fun y hy hn hm => by
      obtain ⟨z, hz, e⟩ := mem_blkOf.1 hm
      exact hne y hy hn z hz e.symm)
  have hnr : ∀ {ad : Option Addr} {nd cd : Nat} {l : Bs}, Sl w ad nd cd l → (∀ y, ad = some y → nd ≠ 0 → ∀ z, a = some z → y.block ≠ z.block) → ∀ y, ad = some y → nd ≠ 0 → ∀ z, a' = some z → y.block ≠ z.block := fun {ad nd cd l} hw hne y hy hn z hz => by
    rcases ha with rfl | rfl
    · exact hne y hy hn z hz
    · simp only [Option.some.injEq] at hz
      subst hz
      have := hw.lt hy hn
      simp only
      omega
  have hold : ∀ i, i < n → (vs ++ [v]).getD i (none, 0, 0) = vs.getD i (none, 0, 0) ∧ (xs ++ [x]).getD i ⟨0, [], false, false⟩ = xs.getD i ⟨0, [], false, false⟩ := fun i hi => ⟨getD_append_lt _ _ _ _ (by rw [h.vlen]; exact hi), getD_append_lt _ _ _ _ (by rw [h.len]; exact hi)⟩
  have hnew : (vs ++ [v]).getD n (none, 0, 0) = v ∧ (xs ++ [x]).getD n ⟨0, [], false, false⟩ = x := ⟨by rw [← h.vlen]; exact getD_append_eq _ _ _, by rw [← h.len]; exact getD_append_eq _ _ _⟩
  refine ⟨by simp [h.len], by simp [h.vlen], ?_, fun i hi => ?_, fun i hi => ?_⟩
  · rw [zip_snoc _ _ _ _ (by rw [h.len, h.vlen]), List.flatMap_append]
    simpa using ho
  · by_cases e : i < n
    · rw [(hold i e).1, (hold i e).2]
      exact keepSl (h.sl i e) (h.ne i e)
    · obtain rfl : i = n := by omega
      rw [hnew.1, hnew.2]
      exact keepSl hO hv
  · by_cases e : i < n
    · rw [(hold i e).1]
      exact hnr (h.sl i e) (h.ne i e)
    · obtain rfl : i = n := by omega
      rw [hnew.1]
      exact hnr hO hv
/-- as a list of calls in memory -/
theorem QsI.read {RT : Nat} {w : World} {base : Nat} {a : Option Addr} {n c : Nat} {xs : List Res} {vs : List (Option Addr × Nat × Nat)} (h : QsI RT w base a n c xs vs) : RsR w a n c xs := by
  rcases h.row.2 with ⟨h3, h0⟩ | ⟨g, cap, cur, hv, hb', hg, hnn, hm, hs, ht⟩
  · simp only [Value.slice.injEq] at h3
    obtain ⟨rfl, h3, rfl⟩ := h3
    exact ⟨h.len, by omega, by simp [maxLen], .inl h0⟩
  · simp only [Value.slice.injEq] at hv
    obtain ⟨rfl, _, rfl⟩ := hv
    refine ⟨h.len, hnn, hm, .inr ⟨g, 0, rfl, fun i hi => ?_⟩⟩
    have hc : ∀ j, j < 4 → w.cell? ⟨g, 0 + 4 * i + j, none⟩ = (rqCells (xs.getD i ⟨0, [], false, false⟩, vs.getD i (none, 0, 0)))[j]? := fun j hj => by
      have e1 : ((xs.zip vs).flatMap rqCells)[4 * i + j]? = (rqCells (xs.getD i ⟨0, [], false, false⟩, vs.getD i (none, 0, 0)))[j]? := by
        have e0 : (xs.zip vs)[i]? = some (xs.getD i ⟨0, [], false, false⟩, vs.getD i (none, 0, 0)) := by
          rw [List.getElem?_zip_eq_some]
          simp [List.getD_eq_getElem?_getD, List.getElem?_eq_getElem (show i < xs.length by rw [h.len]; exact hi), List.getElem?_eq_getElem (show i < vs.length by rw [h.vlen]; exact hi)]
        rw [flatMap_get4 rqCells (fun _ => rfl) _ _ _ hj, e0]
        rfl
      have e2 : (rqCells (xs.getD i ⟨0, [], false, false⟩, vs.getD i (none, 0, 0)))[j]? = some ((rqCells (xs.getD i ⟨0, [], false, false⟩, vs.getD i (none, 0, 0)))[j]'hj) := List.getElem?_eq_getElem _
      rw [e2] at e1 ⊢
      have := h.row.cells (g := g) rfl (4 * i + j) _ e1
      have hadd : (⟨g, 0, none⟩ : Addr).add (4 * i + j) = ⟨g, 4 * i + j, none⟩ := by unfold Addr.add; split <;> simp_all
      rw [hadd] at this
      rwa [Nat.zero_add]
    exact ⟨_, _, _, hc 0 (by decide), hc 1 (by decide), hc 2 (by decide), hc 3 (by decide), h.sl i hi⟩
theorem Src_rq {P : Program} {tx e' : TypeId} {w : World} (hk : P.underlying tx = some (.slice e')) (x : Res) (v : Option Addr × Nat × Nat) (E : Nat) : Src P 4 tx (.slice (some ⟨w.heap.size, 0, none⟩) 1 1) 1 (rqCells (x, v)) (w.alloc (.cells #[.int .i64 x.n, .slice v.1 v.2.1 v.2.2, .bool x.ok, .bool x.pan] E)) := by
  refine Src.ofSlice _ hk ⟨w.heap.size, 0, none⟩ 1 1 (rqCells (x, v)) rfl (fun j u hu => ?_) (by intro u hu; simp only [rqCells, List.mem_cons, List.not_mem_nil, or_false] at hu; rcases hu with rfl | rfl | rfl | rfl <;> rfl)
  have h := Go.heap_alloc_new w (.cells #[.int .i64 x.n, .slice v.1 v.2.1 v.2.2, .bool x.ok, .bool x.pan] E)
  have e : (⟨w.heap.size, 0, none⟩ : Addr).add j = ⟨w.heap.size, j, none⟩ := by unfold Addr.add; split <;> simp_all
  rw [e, cell_of h]
  show (rqCells (x, v)).toArray[j]? = some u
  simpa using hu
end Go.Sha
end

section
namespace Go.Proofs.Ytfgfhdkedmgfiaa
open Go.ChangeShapes Go.WideShapes Go.ChangeAt Go.RowKit Go.Sha
/-- what a round of sameResults reads -/
structure SrR (w : World) (a1 : Option Addr) (n1 c1 : Nat) (a2 : Option Addr) (n2 c2 : Nat) (l : Bs) (w' : World) : Prop where
  s1 : Sl w' a1 n1 c1 l
  s2 : Sl w' a2 n2 c2 l
  fr : Fr [] w w'
theorem SrR.keep {w : World} {a1 : Option Addr} {n1 c1 : Nat} {a2 : Option Addr} {n2 c2 : Nat} {l : Bs} {w1 w2 : World} (h : SrR w a1 n1 c1 a2 n2 c2 l w1) (f : Fr [] w1 w2) : SrR w a1 n1 c1 a2 n2 c2 l w2 :=
  ⟨h.s1.keep0 f, h.s2.keep0 f, h.fr.trans f⟩
def SrRel (w : World) (n : Nat) (iv : Value) (wr : World) : Prop := ∃ i, i ≤ n ∧ iv = .int .i64 ((i : Nat) : Int) ∧ Fr [] w wr
/-- a result's four cells -/
structure R4 (b o : Nat) (z : Int) (ad : Option Addr) (nd cd : Nat) (ok pan : Bool) (w : World) : Prop where
  c0 : w.cell? ⟨b, o, none⟩ = some (.int .i64 z)
  c1 : w.cell? ⟨b, o + 1, none⟩ = some (.slice ad nd cd)
  c2 : w.cell? ⟨b, o + 2, none⟩ = some (.bool ok)
  c3 : w.cell? ⟨b, o + 3, none⟩ = some (.bool pan)
theorem R4.keep {b o : Nat} {z : Int} {ad : Option Addr} {nd cd : Nat} {ok pan : Bool} {w w' : World} (h : R4 b o z ad nd cd ok pan w) (f : Fr [] w w') : R4 b o z ad nd cd ok pan w' :=
  ⟨f.cell h.c0 (by simp), f.cell h.c1 (by simp), f.cell h.c2 (by simp), f.cell h.c3 (by simp)⟩
theorem RsR.at4 {w : World} {a : Option Addr} {n c : Nat} {rs : List Res} (h : RsR w a n c rs) {i : Nat} (hi : i < n) : ∃ b o ad nd cd, a = some ⟨b, o, none⟩ ∧ R4 b (o + i * 4) (rs.getD i ⟨0, [], false, false⟩).n ad nd cd (rs.getD i ⟨0, [], false, false⟩).ok (rs.getD i ⟨0, [], false, false⟩).pan w ∧ Sl w ad nd cd (rs.getD i ⟨0, [], false, false⟩).data := by
  rcases h.cel with h0 | ⟨b, o, ha, hc⟩
  · omega
  · obtain ⟨ad, nd, cd, h1, h2, h3, h4, h5⟩ := hc i hi
    rw [show o + 4 * i = o + i * 4 by omega] at h1 h2 h3 h4
    exact ⟨b, o, ad, nd, cd, ha, ⟨h1, h2, h3, h4⟩, h5⟩
attribute [local irreducible] wpStill in
set_option maxRecDepth 100000 in
set_option maxHeartbeats 1600000 in
theorem sameResults_t (w : World) (a b : Option Addr) (n c d : Nat) (rs : List Res) (h1 : RsR w a n c rs) (h2 : RsR w b n d rs) :
    Calls Try.prog 22 #[.slice a n c, .slice b n d] w (RetB true w) := by
  have HA := Lib.hid h1
  have HB := Lib.hid h2
  have hcap1 := h1.cap
  have hmx1 := h1.max
  have hcap2 := h2.cap
  have hmx2 := h2.max
  unfold maxLen at hmx1 hmx2
  clear h1 h2
  go_enter Try.func22, Try.ntmps22
  go_wp2_with fail
  go_loopw [13] (fun iv wr => SrRel w n iv wr) (fun iv _ => n - (intOf iv).toNat)
  case atStart => exact ⟨0, by omega, rfl, Fr.refl _ _⟩
  case round =>
    obtain ⟨i, hi, rfl, hf⟩ := hrel
    by_cases hlt : i < n
    · obtain ⟨b1, o1, ad1, nd1, cd1, rfl, q1, s1⟩ := RsR.at4 (HA.out.keep0 hf) hlt
      obtain ⟨b2, o2, ad2, nd2, cd2, rfl, q2, s2⟩ := RsR.at4 (HB.out.keep0 hf) hlt
      generalize rs.getD i ⟨0, [], false, false⟩ = x at q1 q2 s1 s2
      obtain ⟨z, data, ok, pan⟩ := x
      simp only at q1 q2 s1 s2
      have D0 : SrR w ad1 nd1 cd1 ad2 nd2 cd2 data wr.drew := ⟨s1.keep0 (Fr.refl _ _).drew, s2.keep0 (Fr.refl _ _).drew, hf.drew⟩
      have A0 := q1.keep (Fr.refl [] _).drew
      have B0 := q2.keep (Fr.refl [] _).drew
      clear s1 s2 q1 q2 hf
      go_wp2_with fail
      go_region_held3 (fun w' => w'.cell? ⟨b1, o1 + i * 4, none⟩ = some (.int .i64 z) ∧ w'.cell? ⟨b1, o1 + i * 4 + 1, none⟩ = some (.slice ad1 nd1 cd1) ∧ w'.cell? ⟨b1, o1 + i * 4 + 2, none⟩ = some (.bool ok) ∧ w'.cell? ⟨b1, o1 + i * 4 + 3, none⟩ = some (.bool pan) ∧ w'.cell? ⟨b2, o2 + i * 4, none⟩ = some (.int .i64 z) ∧ w'.cell? ⟨b2, o2 + i * 4 + 1, none⟩ = some (.slice ad2 nd2 cd2) ∧ w'.cell? ⟨b2, o2 + i * 4 + 2, none⟩ = some (.bool ok) ∧ w'.cell? ⟨b2, o2 + i * 4 + 3, none⟩ = some (.bool pan))
        (first | (exact ⟨A3.c0, A3.c1, A3.c2, A3.c3, B3.c0, B3.c1, B3.c2, B3.c3⟩) | (exact ⟨A0.c0, A0.c1, A0.c2, A0.c3, B0.c0, B0.c1, B0.c2, B0.c3⟩))
        (first
          | (go_at_call 17; refine (same_t ad1 ad2 nd1 nd2 cd1 cd2 data data _ D0.s1 D0.s2 rfl).mono ?_; rintro e w3 ⟨rfl, f3⟩; have A3 := A0.keep f3; have B3 := B0.keep f3; have D3 := D0.keep f3))
      go_wp2_with fail
      exact ⟨⟨i + 1, by omega, by simp, D3.fr⟩, by simp [intOf]; omega⟩
    · obtain rfl : i = n := by omega
      have HF := Lib.hid hf
      clear hf
      go_wp2_with fail
      go_ret
      exact ⟨rfl, HF.out⟩
end Go.Proofs.Ytfgfhdkedmgfiaa
end
