/- Contracts and lemmas, merged: Run, Law, FnActs, Jn. Their conditions stand in each. -/
import Derived.Test.YtjgdbamlaajkmaaGA
import Derived.Test.YtjgdbamlaajkmaaGB
import Derived.Test.YtjgdbamlaajkmaaGC
import Derived.Test.YtjgdbamlaajkmaaGG
import Derived.Test.YtjgdbamlaajkmaaGH
import Derived.Test.YtjgdbamlaajkmaaGI
import Derived.Test.YtjgdbamlaajkmaaGK
import Derived.Test.YtjgdbamlaajkmaaGL
section
namespace Go.Sha
open Go.RowKit
theorem zip_snoc {α β : Type} (l : List α) (m : List β) (x : α) (y : β) (h : l.length = m.length) : (l ++ [x]).zip (m ++ [y]) = l.zip m ++ [(x, y)] := by
  rw [List.zip_append h]
  rfl
/-- one result more -/
theorem RsI.push {RT U : Nat} {w wB wC : World} {base : Nat} {S : List Nat} {a a' : Option Addr} {n c c' : Nat} {rs : List Res} {vs : List (Option Addr × Nat)} (h : RsI RT U w base S a n c rs vs) {x : Res} {v : Option Addr × Nat} (hf : Fr [] w wB) (hS : ∀ k ∈ S, k < w.heap.size)
    (hO : Ow w base U v.1 v.2 x.data) (hv : ∀ y, v.1 = some y → y.block ∉ S ∧ (∀ z, a = some z → y.block ≠ z.block) ∧ ∀ i, i < n → ∀ z, (vs.getD i (none, 0)).1 = some z → y.block ≠ z.block)
    (ho : wC.ownsRow base RT 4 (.slice a' (n + 1) c') (n + 1) ((rs.zip vs).flatMap resCells ++ resCells (x, v))) (hgr : wB.grownBy wC (Value.slice a n c).ownBlock) (ha : a' = a ∨ a' = some ⟨wB.heap.size, 0, none⟩) :
    RsI RT U wC base S a' (n + 1) c' (rs ++ [x]) (vs ++ [v]) := by
  have fBC : Fr (blkOf a) wB wC := by
    rw [← ownBlock_blkOf a n c]
    exact (Fr.refl _ _).grown hgr (fun k hk => by rw [hk]; exact .inr (by simp))
  have hsz := hf.size
  have keepOw : ∀ {ad : Option Addr} {cd : Nat} {l : Bs}, Ow w base U ad cd l → (∀ y, ad = some y → ∀ z, a = some z → y.block ≠ z.block) → Ow wC base U ad cd l := fun {ad cd l} hw hne => by
    obtain ⟨h1, h2⟩ := hw
    refine ⟨h1, ?_⟩
    rcases h2 with h2 | ⟨g, cap, cur, hvv, hg, hh, r⟩
    · exact .inl h2
    · refine .inr ⟨g, cap, cur, hvv, hg, fBC.obj (hf.obj hh (by simp)) (fun hm => ?_), r⟩
      simp only [Value.slice.injEq] at hvv
      obtain ⟨z, hz, e⟩ := mem_blkOf.1 hm
      exact hne ⟨g, 0, none⟩ hvv.1 z hz e.symm
  have hlt : ∀ {ad : Option Addr} {cd : Nat} {l : Bs}, Ow w base U ad cd l → ∀ y, ad = some y → y.block < w.heap.size := fun {ad cd l} hw y hy => by
    subst hy
    exact hw.block.2.2.2
  have hold : ∀ i, i < n → (vs ++ [v]).getD i (none, 0) = vs.getD i (none, 0) ∧ (rs ++ [x]).getD i ⟨0, [], false, false⟩ = rs.getD i ⟨0, [], false, false⟩ := fun i hi => ⟨getD_append_lt _ _ _ _ (by rw [h.vlen]; exact hi), getD_append_lt _ _ _ _ (by rw [h.len]; exact hi)⟩
  have hnew : (vs ++ [v]).getD n (none, 0) = v ∧ (rs ++ [x]).getD n ⟨0, [], false, false⟩ = x := ⟨by rw [← h.vlen]; exact getD_append_eq _ _ _, by rw [← h.len]; exact getD_append_eq _ _ _⟩
  have hrow : ∀ y, a' = some y → y.block ∉ S := fun y hy => by
    rcases ha with rfl | rfl
    · exact h.rowS y hy
    · simp only [Option.some.injEq] at hy
      subst hy
      intro hm
      have := hS _ hm
      simp only at this
      omega
  have hnr : ∀ {ad : Option Addr} {cd : Nat} {l : Bs}, Ow w base U ad cd l → (∀ y, ad = some y → ∀ z, a = some z → y.block ≠ z.block) → ∀ y, ad = some y → ∀ z, a' = some z → y.block ≠ z.block := fun {ad cd l} hw hne y hy z hz => by
    rcases ha with rfl | rfl
    · exact hne y hy z hz
    · simp only [Option.some.injEq] at hz
      subst hz
      have := hlt hw y hy
      simp only
      omega
  refine ⟨by simp [h.len], by simp [h.vlen], ?_, hrow, fun i hi => ?_, fun i hi y hy => ?_, fun i j hi hj hij y z hy hz => ?_⟩
  · rw [zip_snoc _ _ _ _ (by rw [h.len, h.vlen]), List.flatMap_append]
    simpa using ho
  · by_cases e : i < n
    · rw [(hold i e).1, (hold i e).2]
      exact keepOw (h.own i e) (fun y hy => (h.ownS i e y hy).2)
    · obtain rfl : i = n := by omega
      rw [hnew.1, hnew.2]
      exact keepOw hO (fun y hy => (hv y hy).2.1)
  · by_cases e : i < n
    · rw [(hold i e).1] at hy
      exact ⟨(h.ownS i e y hy).1, hnr (h.own i e) (fun y hy => (h.ownS i e y hy).2) y hy⟩
    · obtain rfl : i = n := by omega
      rw [hnew.1] at hy
      exact ⟨(hv y hy).1, hnr hO (fun y hy => (hv y hy).2.1) y hy⟩
  · by_cases e1 : i < n
    · by_cases e2 : j < n
      · rw [(hold i e1).1] at hy
        rw [(hold j e2).1] at hz
        exact h.ne i j e1 e2 hij y z hy hz
      · obtain rfl : j = n := by omega
        rw [(hold i e1).1] at hy
        rw [hnew.1] at hz
        exact fun e => (hv z hz).2.2 i e1 y hy e.symm
    · obtain rfl : i = n := by omega
      rw [hnew.1] at hy
      by_cases e2 : j < i
      · rw [(hold j e2).1] at hz
        exact (hv y hy).2.2 j e2 z hz
      · omega
theorem flatMap_get4 {α β : Type} (f : α → List β) (hf : ∀ x, (f x).length = 4) (l : List α) (i j : Nat) (hj : j < 4) : (l.flatMap f)[4 * i + j]? = (l[i]?).bind fun x => (f x)[j]? := by
  induction l generalizing i with
  | nil => simp
  | cons x l ih =>
    rw [List.flatMap_cons]
    cases i with
    | zero => rw [List.getElem?_append_left (by rw [hf]; omega)]; simp
    | succ i => rw [List.getElem?_append_right (by rw [hf]; omega), hf, show 4 * (i + 1) + j - 4 = 4 * i + j by omega, ih]; simp
theorem resCells_len (p : Res × (Option Addr × Nat)) : (resCells p).length = 4 := rfl
/-- the cells of a result -/
theorem RsI.cells {RT U : Nat} {w : World} {base : Nat} {S : List Nat} {a : Option Addr} {n c : Nat} {rs : List Res} {vs : List (Option Addr × Nat)} (h : RsI RT U w base S a n c rs vs) (hn : 0 < n) :
    ∃ g, a = some ⟨g, 0, none⟩ ∧ n ≤ c ∧ c ≤ maxLen ∧ ∀ i, i < n → ∀ j, j < 4 → w.cell? ⟨g, 4 * i + j, none⟩ = (resCells (rs.getD i ⟨0, [], false, false⟩, vs.getD i (none, 0)))[j]? := by
  rcases h.row.2 with ⟨_, h0⟩ | ⟨g, cap, cur, hv, hb', hg, hnn, hm, hs, ht⟩
  · omega
  · simp only [Value.slice.injEq] at hv
    obtain ⟨rfl, _, rfl⟩ := hv
    refine ⟨g, rfl, hnn, hm, fun i hi j hj => ?_⟩
    have e1 : ((rs.zip vs).flatMap resCells)[4 * i + j]? = (resCells (rs.getD i ⟨0, [], false, false⟩, vs.getD i (none, 0)))[j]? := by
      have e0 : (rs.zip vs)[i]? = some (rs.getD i ⟨0, [], false, false⟩, vs.getD i (none, 0)) := by
        rw [List.getElem?_zip_eq_some]
        simp [List.getD_eq_getElem?_getD, List.getElem?_eq_getElem (show i < rs.length by rw [h.len]; exact hi), List.getElem?_eq_getElem (show i < vs.length by rw [h.vlen]; exact hi)]
      rw [flatMap_get4 resCells resCells_len _ _ _ hj, e0]
      rfl
    have e2 : (resCells (rs.getD i ⟨0, [], false, false⟩, vs.getD i (none, 0)))[j]? = some ((resCells (rs.getD i ⟨0, [], false, false⟩, vs.getD i (none, 0)))[j]'(by rw [resCells_len]; exact hj)) := List.getElem?_eq_getElem _
    rw [e2] at e1 ⊢
    have := h.row.cells (g := g) rfl (4 * i + j) _ e1
    have hadd : (⟨g, 0, none⟩ : Addr).add (4 * i + j) = ⟨g, 4 * i + j, none⟩ := by unfold Addr.add; split <;> simp_all
    rwa [hadd] at this
theorem Src_res {P : Program} {tx e' : TypeId} {w : World} (hk : P.underlying tx = some (.slice e')) (x : Res) (v : Option Addr × Nat) (E : Nat) : Src P 4 tx (.slice (some ⟨w.heap.size, 0, none⟩) 1 1) 1 (resCells (x, v)) (w.alloc (.cells #[.int .i64 x.n, .slice v.1 x.data.length v.2, .bool x.ok, .bool x.pan] E)) := by
  refine Src.ofSlice _ hk ⟨w.heap.size, 0, none⟩ 1 1 (resCells (x, v)) rfl (fun j u hu => ?_) (by intro u hu; simp only [resCells, List.mem_cons, List.not_mem_nil, or_false] at hu; rcases hu with rfl | rfl | rfl | rfl <;> rfl)
  have h := Go.heap_alloc_new w (.cells #[.int .i64 x.n, .slice v.1 x.data.length v.2, .bool x.ok, .bool x.pan] E)
  have e : (⟨w.heap.size, 0, none⟩ : Addr).add j = ⟨w.heap.size, j, none⟩ := by unfold Addr.add; split <;> simp_all
  rw [e, cell_of h]
  show (resCells (x, v)).toArray[j]? = some u
  simpa using hu
end Go.Sha
namespace Go.Proofs.Ytjgdbamlaajkmaa
open Go.ChangeShapes Go.WideShapes Go.ChangeAt Go.RowKit Go.Sha
theorem act_any (w : World) (base hb : Nat) (kind : Int) (r o : Nat) (all saved : List Bs) (S : List Nat) (ad : Option Addr) (nd cd : Nat) (data : Bs) (k att pick : Int) (hI : HInv w base hb kind r o all saved S) (hS : Sl w ad nd cd data) (hnd : nd ≤ 140737488351232) (hall : all.length ≤ 1099511627776) (hsvl : saved.length ≤ 1099511627776) (hkr : r = rOf (k5 kind)) (hko : o = oOf (k5 kind)) :
    Calls Try.prog 28 #[.pointer (some ⟨hb, 0, none⟩), .agg #[.int .i64 k, .int .i64 att, .int .i64 pick, .slice ad nd cd]] w (ActR base hb kind r o (stepH r o all saved ⟨k, att, pick, data⟩) S w) := by
  obtain ⟨bs, ss, a1, c1, a2, c2, h⟩ := hI
  have hm := ix_int k 10 (by decide)
  have hl := ix_lt k 10 (by decide)
  generalize ix k 10 = m at hm hl
  obtain rfl | rfl | rfl | rfl | rfl | rfl | rfl | rfl | rfl | rfl : m = 0 ∨ m = 1 ∨ m = 2 ∨ m = 3 ∨ m = 4 ∨ m = 5 ∨ m = 6 ∨ m = 7 ∨ m = 8 ∨ m = 9 := by omega
  · exact act_write w base hb kind r o all saved bs ss a1 a2 c1 c2 S ad nd cd data k att pick h hS hnd hall hm
  · exact act_sum w base hb kind r o all saved bs ss a1 a2 c1 c2 S ad nd cd data k att pick h hS hnd hall hm
  · exact act_reset w base hb kind r o all saved bs ss a1 a2 c1 c2 S ad nd cd data k att pick h hS hnd hall hm
  · exact act_size w base hb kind r o all saved bs ss a1 a2 c1 c2 S ad nd cd data k att pick h hS hnd hall hm
  · exact act_block w base hb kind r o all saved bs ss a1 a2 c1 c2 S ad nd cd data k att pick h hS hnd hall hm
  · exact act_clone w base hb kind r o all saved bs ss a1 a2 c1 c2 S ad nd cd data k att pick h hS hnd hall hm
  · exact act_fresh w base hb kind r o all saved bs ss a1 a2 c1 c2 S ad nd cd data k att pick h hS hnd hall hkr hko hm
  · exact act_save w base hb kind r o all saved bs ss a1 a2 c1 c2 S ad nd cd data k att pick h hS hnd hall hsvl hm
  · exact act_append w base hb kind r o all saved bs ss a1 a2 c1 c2 S ad nd cd data k att pick h hS hnd hall hsvl hm
  · by_cases h0 : saved.length = 0
    · exact act_load0 w base hb kind r o all saved bs ss a1 a2 c1 c2 S ad nd cd data k att pick h hS hnd hall h0 hm
    · exact act_load1 w base hb kind r o all saved bs ss a1 a2 c1 c2 S ad nd cd data k att pick h hS hnd hall (by omega) hsvl hm

theorem sv_row_ne {w : World} {base hb : Nat} {kind : Int} {r o : Nat} {all saved : List Bs} {bs : List Nat} {ss : List (Nat × Nat)} {a1 a2 : Option Addr} {c1 c2 : Nat} {S S' : List Nat} {a : Option Addr} {n c : Nat} {rs : List Res} {vs : List (Option Addr × Nat)} (h : HI 50 45 22 60 w base hb kind r o all saved bs ss a1 c1 a2 c2 S) (hR : RsI 31 5 w base S' a n c rs vs) (h0 : n = 0 → a = none) (j : Nat) (hj : j < saved.length) : ∀ x ∈ blkOf a, (ss.getD j (0, 0)).1 ≠ x := fun x hx e => by
  obtain ⟨y, hy, rfl⟩ := mem_blkOf.1 hx
  have hn : 0 < n := by
    rcases Nat.eq_zero_or_pos n with e0 | e0
    · rw [h0 e0] at hy; cases hy
    · exact e0
  obtain ⟨g, hg, _, _, hc⟩ := hR.cells hn
  rw [hg] at hy
  simp only [Option.some.injEq] at hy
  subst hy
  simp only at e
  have h1 := (h.sv j hj).1
  rcases h1.cel with h2 | ⟨b', o', hb', hc'⟩
  · cases h2
  · simp only [Option.some.injEq, Addr.mk.injEq] at hb'
    obtain ⟨rfl, rfl, _⟩ := hb'
    have h3 := hc' 1 (by decide)
    have h4 := hc 0 hn 1 (by decide)
    rw [e] at h3
    simp only [Nat.mul_zero, Nat.zero_add] at h3 h4
    rw [h3] at h4
    simp [resCells] at h4
theorem infoRT : (Try.prog.info? 31).map (fun i => (i.zero, i.size, i.bytes)) = some (some (.agg #[.int .i64 0, .slice none 0 0, .bool false, .bool false]), 4, 40) := by kernel_rfl
theorem HInv_start (w w1 : World) (kind : Int) (r o g : Nat) (hr : Rt r o) (hg : w.heap.size ≤ g) (hg2 : g < w1.heap.size) (h1 : HsAt w1 g 60 r o []) (f1 : Fr [] w w1) :
    HInv ((w1.alloc (.cells #[.pointer (some ⟨g, 0, none⟩)] 45)).alloc (.cells #[.int .i64 kind, .slice (some ⟨w1.heap.size, 0, none⟩) 1 1, .slice none 0 0] 50)) w.heap.size (w1.heap.size + 1) kind r o [[]] [] [w1.heap.size + 1, g, w1.heap.size] := by
  have hw1 := f1.size
  have z1 : (w1.alloc (.cells #[.pointer (some ⟨g, 0, none⟩)] 45)).heap.size = w1.heap.size + 1 := by simp
  have fA : Fr [] w1 ((w1.alloc (.cells #[.pointer (some ⟨g, 0, none⟩)] 45)).alloc (.cells #[.int .i64 kind, .slice (some ⟨w1.heap.size, 0, none⟩) 1 1, .slice none 0 0] 50)) := ((Fr.refl _ _).alloc _).alloc _
  refine ⟨[g], [], some ⟨w1.heap.size, 0, none⟩, 1, none, 0, ⟨?_, rfl, ?_, ?_, by simp, rfl, World.ownsRow_nil _ _ _ _, (fun i hi => by simp at hi), by simp, by simp, by simp, (fun x hx => by cases hx), ?_, ?_, (fun x hx => by cases hx), (fun x y hx hy => by cases hy), ?_, by simp, hr⟩⟩
  · have e := Go.heap_alloc_new (w1.alloc (.cells #[.pointer (some ⟨g, 0, none⟩)] 45)) (.cells #[.int .i64 kind, .slice (some ⟨w1.heap.size, 0, none⟩) 1 1, .slice none 0 0] 50)
    rw [z1] at e
    exact e
  · refine ⟨rfl, .inr ⟨w1.heap.size, 1, #[.pointer (some ⟨g, 0, none⟩)], rfl, hw1, ((Fr.refl [] _).alloc _).obj (Go.heap_alloc_new w1 _) (by simp), by simp, by simp [maxLen], by simp, rfl⟩⟩
  · intro i hi
    obtain rfl : i = 0 := by simp at hi; exact hi
    exact h1.keep fA (by simp)
  · simp
    omega
  · intro x hx
    simp only [Option.some.injEq] at hx
    subst hx
    simp
    omega
  · intro k hk
    simp only [List.mem_cons, List.not_mem_nil, or_false] at hk
    simp
    omega
/-- the loop's relation -/
def RnRel (w : World) (kind : Int) (r o hb n : Nat) (xs : List Actn) (out iv : Value) (wr : World) : Prop :=
  ∃ i a c vs S, i ≤ n ∧ iv = .int .i64 ((i : Nat) : Int) ∧ out = .slice a i c ∧ HInv wr w.heap.size hb kind r o (runS r o (xs.take i)).2.1 (runS r o (xs.take i)).2.2 S ∧ RsI 31 5 wr w.heap.size S a i c (runS r o (xs.take i)).1 vs ∧ Fr [] w wr ∧ (i = 0 → a = none)
/-- what a script returns -/
def RunR (n : Nat) (rs : List Res) (w : World) (e : Ending) (w' : World) : Prop := ∃ a c vs, e = .returned (.slice a n c) ∧ RsI 31 5 w' w.heap.size [] a n c rs vs ∧ Fr [] w w'
set_option maxRecDepth 100000 in
set_option maxHeartbeats 800000 in
theorem runHashes_any (w : World) (kind : Int) (a : Option Addr) (n c : Nat) (xs : List Actn) (h : ActsAt w a n c xs) (hn : n ≤ 1099511627775) :
    Calls Try.prog 15 #[.int .i64 kind, .slice a n c] w (RunR n (runH (rOf (k5 kind)) (oOf (k5 kind)) xs) w) := by
  obtain ⟨i0, hi0, hz0, hz1, hz2⟩ := info_parts infoRT
  obtain ⟨r, hr⟩ : ∃ r, r = rOf (k5 kind) := ⟨_, rfl⟩
  obtain ⟨o, ho⟩ : ∃ o, o = oOf (k5 kind) := ⟨_, rfl⟩
  have hrt : Rt r o := by rw [hr, ho]; exact rt_of _ (k5_lt kind)
  have HRO := Lib.hid (And.intro hr ho)
  have HA := Lib.hid h
  have hcap := h.cap
  have hmx := h.max
  unfold maxLen at hmx
  have HRT := Lib.hid hrt
  clear h hrt
  have NH := newHash_any kind w
  rw [← hr, ← ho] at NH
  have HNH := Lib.hid NH
  rw [← hr, ← ho]
  clear hr ho NH
  go_enter Try.func15, Try.ntmps15
  go_wp2_with fail
  refine HNH.out.mono ?_
  rintro e w1 ⟨g, rfl, hg1, hg2, h1, f1⟩
  have I0 := Lib.hid (HInv_start w w1 kind r o g HRT.out hg1 hg2 h1 f1)
  have f2 : Fr [] w ((w1.alloc (.cells #[.pointer (some ⟨g, 0, none⟩)] 45)).alloc (.cells #[.int .i64 kind, .slice (some ⟨w1.heap.size, 0, none⟩) 1 1, .slice none 0 0] 50)) := (f1.alloc _).alloc _
  clear h1 HNH
  go_wp2_with fail
  obtain ⟨hb, hhb⟩ : ∃ hb, hb = w1.heap.size + 1 := ⟨_, rfl⟩
  rw [← hhb] at I0
  have e1 : (w1.alloc (.cells #[.pointer (some ⟨g, 0, none⟩)] 45)).heap.size = hb := by rw [hhb]; simp
  try rw [e1]
  try rw [← hhb]
  have HHB := Lib.hid hhb
  clear hhb e1
  have J0 : Hid (∃ S, HInv ((w1.alloc (.cells #[.pointer (some ⟨g, 0, none⟩)] 45)).alloc (.cells #[.int .i64 kind, .slice (some ⟨w1.heap.size, 0, none⟩) 1 1, .slice none 0 0] 50)) w.heap.size hb kind r o [[]] [] S) := ⟨_, I0.out⟩
  clear I0
  generalize (w1.alloc (.cells #[.pointer (some ⟨g, 0, none⟩)] 45)).alloc (.cells #[.int .i64 kind, .slice (some ⟨w1.heap.size, 0, none⟩) 1 1, .slice none 0 0] 50) = w2 at J0 f2 ⊢
  go_loopw [6, 17] (fun out iv wr => RnRel w kind r o hb n xs out iv wr) (fun _ iv _ => n - (intOf iv).toNat)
  case atStart =>
    obtain ⟨S, hI⟩ := J0.out
    exact ⟨0, none, 0, [], S, by omega, rfl, rfl, hI, RsI.nil _ _ _ _ _, f2, fun _ => rfl⟩
  case round =>
    clear J0 f2
    obtain ⟨i, ao, co, vs, S, hi, rfl, rfl, hI, hR, hf, hi0a⟩ := hrel
    have HIZ := Lib.hid hi0a
    clear hi0a
    have HI5 := Lib.hid hI
    have HR5 := Lib.hid hR
    clear hI hR
    by_cases hlt : i < n
    · obtain ⟨b, ob, rfl, hcel⟩ : ∃ b ob, a = some ⟨b, ob, none⟩ ∧ ∀ i, i < n → ∃ ad nd cd, wr.cell? ⟨b, ob + 4 * i, none⟩ = some (.int .i64 (xs.getD i ⟨0, 0, 0, []⟩).k) ∧ wr.cell? ⟨b, ob + 4 * i + 1, none⟩ = some (.int .i64 (xs.getD i ⟨0, 0, 0, []⟩).at_) ∧ wr.cell? ⟨b, ob + 4 * i + 2, none⟩ = some (.int .i64 (xs.getD i ⟨0, 0, 0, []⟩).pick) ∧ wr.cell? ⟨b, ob + 4 * i + 3, none⟩ = some (.slice ad nd cd) ∧ Sl wr ad nd cd (xs.getD i ⟨0, 0, 0, []⟩).data ∧ nd ≤ 140737488351232 := by
        rcases (HA.out.keep hf (by simp)).cel with h0 | h0
        · omega
        · exact h0
      obtain ⟨ad, nd, cd, p0, p1, p2, p3, hS, hnd⟩ := hcel i hlt
      clear hcel
      rw [show ob + 4 * i = ob + i * 4 by omega] at p0 p1 p2 p3
      obtain ⟨x, hx⟩ : ∃ x, x = xs.getD i ⟨0, 0, 0, []⟩ := ⟨_, rfl⟩
      rw [← hx] at p0 p1 p2 hS
      obtain ⟨k, att, pick, data⟩ := x
      simp only at p0 p1 p2 hS
      have HX := Lib.hid hx
      have HS := Lib.hid hS
      clear hx hS
      obtain ⟨all, hall⟩ : ∃ all, all = (runS r o (xs.take i)).2.1 := ⟨_, rfl⟩
      obtain ⟨saved, hsaved⟩ : ∃ saved, saved = (runS r o (xs.take i)).2.2 := ⟨_, rfl⟩
      obtain ⟨rs, hrs⟩ : ∃ rs, rs = (runS r o (xs.take i)).1 := ⟨_, rfl⟩
      have hlen := runS_len r o (xs.take i)
      rw [← hall, ← hsaved, ← hrs, List.length_take, HA.out.len] at hlen
      rw [← hall, ← hsaved] at HI5
      rw [← hrs] at HR5
      have hal : all.length ≤ 1099511627776 := by omega
      have hsl : saved.length ≤ 1099511627776 := by omega
      have HST := Lib.hid (And.intro hall (And.intro hsaved hrs))
      clear hall hsaved hrs hlen
      obtain ⟨Y, hY⟩ : ∃ Y, Y = stepH r o all saved ⟨k, att, pick, data⟩ := ⟨_, rfl⟩
      have f2 : Fr [] wr (wr.alloc (.cells #[.int .i64 k, .int .i64 att, .int .i64 pick, .slice ad nd cd] 26)) := (Fr.refl _ _).alloc _
      obtain ⟨bs, ss, a1, c1, a2, c2, hI5⟩ := HI5.out
      have I2 : HInv (wr.alloc (.cells #[.int .i64 k, .int .i64 att, .int .i64 pick, .slice ad nd cd] 26)) w.heap.size hb kind r o all saved S := ⟨bs, ss, a1, c1, a2, c2, hI5.keep0 f2⟩
      have AC := act_any _ w.heap.size hb kind r o all saved S ad nd cd data k att pick I2 (HS.out.keep0 f2) hnd hal hsl HRO.out.1 HRO.out.2
      rw [← hY] at AC
      have HAC := Lib.hid AC
      have HY := Lib.hid hY
      clear AC hY I2 hI5
      obtain ⟨⟨Rn, Rd, Ro, Rp⟩, all', saved'⟩ := Y
      have R2 := Lib.hid (HR5.out.keep (S' := S) (f2.mono (by simp)) (fun k hk => .inl hk))
      have F2 := hf.trans f2
      go_wp2_with fail
      generalize wr.alloc (.cells #[.int .i64 k, .int .i64 att, .int .i64 pick, .slice ad nd cd] 26) = w2 at HAC R2 F2 ⊢
      refine HAC.out.mono ?_
      rintro e w3 ⟨a3, c3, S', rfl, O3, I3, f3, hsub, hn3⟩
      simp only at O3 I3 hn3 ⊢
      have hw2 : w.heap.size ≤ w2.heap.size := F2.size
      have F3 : Fr [] w w3 := F2.via f3 (fun q hq => by
        obtain ⟨_, _, _, _, _, _, hq'⟩ := HI5.out
        exact (hq'.Slt q hq).1)
      have R3 := R2.out.keep f3 hsub
      have HSlt : ∀ q ∈ S', q < w3.heap.size := fun q hq => by
        obtain ⟨_, _, _, _, _, _, hq'⟩ := I3
        exact (hq'.Slt q hq).2
      have hv3 : ∀ y, a3 = some y → y.block ∉ S' ∧ (∀ z, ao = some z → y.block ≠ z.block) ∧ ∀ j, j < i → ∀ z, (vs.getD j (none, 0)).1 = some z → y.block ≠ z.block := fun y hy => by
        have hy2 : w2.heap.size ≤ y.block := by subst hy; exact O3.block.2.2.1
        refine ⟨hn3 y hy, fun z hz => ?_, fun j hj z hz => ?_⟩
        · have := (ownsRow_lt R2.out.row (show (Value.slice ao i co).ownBlock = some z.block by rw [hz]; rfl)).2
          omega
        · have h5 := R2.out.own j hj
          rw [hz] at h5
          have := h5.block.2.2.2
          omega
      obtain ⟨x, hx⟩ : ∃ x : Res, x = ⟨Rn, Rd, Ro, Rp⟩ := ⟨_, rfl⟩
      obtain ⟨dl, hdl⟩ : ∃ dl, dl = Rd.length := ⟨_, rfl⟩
      have f4 : Fr [] w3 (w3.alloc (.cells #[.int .i64 Rn, .slice a3 Rd.length c3, .bool Ro, .bool Rp] 31)) := (Fr.refl _ _).alloc _
      have R4 := R3.keep (S' := S') (f4.mono (by simp)) (fun q hq => .inl hq)
      obtain ⟨XS, hXS⟩ : ∃ XS, XS = (rs.zip vs).flatMap resCells := ⟨_, rfl⟩
      have O4 : Hid ((w3.alloc (.cells #[.int .i64 Rn, .slice a3 Rd.length c3, .bool Ro, .bool Rp] 31)).ownsRow w.heap.size 31 4 (.slice ao i co) i XS) := by rw [hXS]; exact R4.row
      obtain ⟨YS, hYS⟩ : ∃ YS, YS = resCells (⟨Rn, Rd, Ro, Rp⟩, (a3, c3)) := ⟨_, rfl⟩
      have Y4 : Hid (Src Try.prog 4 23 (.slice (some ⟨w3.heap.size, 0, none⟩) 1 1) 1 YS (w3.alloc (.cells #[.int .i64 Rn, .slice a3 Rd.length c3, .bool Ro, .bool Rp] 31))) := by rw [hYS]; exact Src_res Try.underlying23 ⟨Rn, Rd, Ro, Rp⟩ (a3, c3) 31
      have X1 : Hid (i + 1 ≤ maxLen) := by show _ ≤ _; unfold maxLen; omega
      have X2 : Hid ((i + 1) * 40 ≤ 140737488355328) := by show _ ≤ _; omega
      have X3 : Hid (w.heap.size ≤ (w3.alloc (.cells #[.int .i64 Rn, .slice a3 Rd.length c3, .bool Ro, .bool Rp] 31)).heap.size) := by show _ ≤ _; have := F3.size; simp; omega
      have HXY := Lib.hid (And.intro hXS hYS)
      have HR3 := Lib.hid R3
      have HO3 : Hid (Ow w3 w.heap.size 5 a3 c3 Rd) := O3.mono hw2
      have HI3 := Lib.hid I3
      have HV3 := Lib.hid hv3
      have HLT := Lib.hid HSlt
      have HSUB := Lib.hid hsub
      clear hXS hYS R3 O3 I3 hv3 HSlt hsub hn3 R4 f3 hx x hdl dl p0 p1 p2 p3
      go_wp2_with (at_builtin; refine wpList_append_srcN _ rfl _ _ 23 23 rfl w.heap.size 31 i0 (.agg #[.int .i64 0, .slice none 0 0, .bool false, .bool false]) 4 40 Try.underlying23 hi0 hz0 hz1 hz2 rfl ao i co XS rfl O4.out _ 1 YS rfl Y4.out X1.out X2.out X3.out ?_)
      intro a5 c5 w5 ho5 hg5 ha5
      have R5 := HR3.out.push (x := ⟨Rn, Rd, Ro, Rp⟩) (v := (a3, c3)) f4 HLT.out HO3.out HV3.out (by rw [← HXY.out.1, ← HXY.out.2]; exact ho5) hg5 (by simpa using ha5)
      have fBC : Fr (blkOf ao) (w3.alloc (.cells #[.int .i64 Rn, .slice a3 Rd.length c3, .bool Ro, .bool Rp] 31)) w5 := by
        rw [← ownBlock_blkOf ao i co]
        exact (Fr.refl _ _).grown hg5 (fun k hk => by rw [hk]; exact .inr (by simp))
      have I5 : HInv w5 w.heap.size hb kind r o all' saved' S' := by
        obtain ⟨bs, ss, a1, c1, a2, c2, h3⟩ := HI3.out
        refine ⟨bs, ss, a1, c1, a2, c2, HI_keepNew (h3.keep0 f4) fBC (fun q hq => ⟨fun hm => ?_, fun j hj => ?_⟩)⟩
        · obtain ⟨z, hz, rfl⟩ := mem_blkOf.1 hq
          exact HR3.out.rowS z hz hm
        · exact sv_row_ne h3 HR3.out HIZ.out j hj q hq
      have F5 : Fr [] w w5 := (F3.trans f4).via fBC (fun q hq => by
        obtain ⟨z, hz, rfl⟩ := mem_blkOf.1 hq
        exact (ownsRow_lt HR3.out.row (show (Value.slice ao i co).ownBlock = some z.block by rw [hz]; rfl)).1)
      have H5 := Lib.hid (And.intro R5 (And.intro I5 F5))
      clear R5 I5 F5 ho5 hg5 ha5 O4 Y4 X1 X2 X3 fBC f4 F3 F2 hf f2
      go_wp2_with fail
      have e6 : runS r o (xs.take (i + 1)) = (rs ++ [⟨Rn, Rd, Ro, Rp⟩], all', saved') := by
        have e7 : xs.take (i + 1) = xs.take i ++ [⟨k, att, pick, data⟩] := by
          rw [List.take_succ_eq_append_getElem (by rw [HA.out.len]; exact hlt), HX.out, List.getD_eq_getElem?_getD, List.getElem?_eq_getElem (by rw [HA.out.len]; exact hlt)]
          rfl
        rw [e7, runS_snoc]
        unfold goH
        rw [← HST.out.1, ← HST.out.2.1, ← HST.out.2.2, ← HY.out]
      refine ⟨⟨i + 1, a5, c5, vs ++ [(a3, c3)], S', by omega, by simp, rfl, ?_, ?_, H5.out.2.2, fun h => by omega⟩, by simp [intOf]; omega⟩
      · rw [e6]; exact H5.out.2.1
      · rw [e6]; exact H5.out.1
    · obtain rfl : i = n := by omega
      have HF := Lib.hid hf
      clear hf
      go_wp2_with fail
      go_ret
      rw [List.take_of_length_le (by rw [HA.out.len]; exact Nat.le_refl _)] at HR5
      exact ⟨ao, co, vs, rfl, HR5.out.keep (S' := []) (Fr.refl _ _) (by simp), HF.out⟩
end Go.Proofs.Ytjgdbamlaajkmaa
end

section
namespace Go.Proofs.Ytjgdbamlaajkmaa
open Go.ChangeShapes Go.WideShapes Go.ChangeAt Go.RowKit Go.Sha
theorem sizeAT : (Try.prog.info? 26).map (·.size) = some 4 := by kernel_rfl
theorem own_n (a0 : Option Addr) (n c : Nat) (l : Bs) (w : World) (h : Sl w a0 n c l) (hn : n ≤ 140737488355328) :
    Calls Try.prog 26 #[.slice a0 n c] w fun e w' => ∃ a c', e = .returned (.slice a n c') ∧ Ow w' w.heap.size 5 a c' l ∧ Fr [] w w' := by
  have := own_any a0 n c l w h hn
  unfold RetO at this
  rwa [h.len] at this
/-- a call with bytes in new memory -/
def ActW (k att : Int) (n : Nat) (l : Bs) (w : World) (e : Ending) (w' : World) : Prop := ∃ a c, e = .returned (.agg #[.int .i64 k, .int .i64 att, .int .i64 0, .slice a n c]) ∧ Ow w' w.heap.size 5 a c l ∧ Fr [] w w'

set_option maxRecDepth 100000 in
theorem lwrite_any (att : Int) (a0 : Option Addr) (n c : Nat) (l : Bs) (w : World) (h : Sl w a0 n c l) (hn : n ≤ 140737488355328) :
    Calls Try.prog 17 #[.int .i64 att, .slice a0 n c] w (ActW 0 att n l w) := by
  have f1 : Fr [] w (w.alloc (.cells #[.int .i64 0, .int .i64 0, .int .i64 0, .slice none 0 0] 26)) := (Fr.refl _ _).alloc _
  have B0 : Hid ((w.alloc (.cells #[.int .i64 0, .int .i64 0, .int .i64 0, .slice none 0 0] 26)).heap[w.heap.size]? = some (.cells #[.int .i64 0, .int .i64 0, .int .i64 0, .slice none 0 0] 26 (0, 0))) := Go.heap_alloc_new w _
  have S1 := Lib.hid (h.keep0 f1)
  have z1 : w.heap.size < (w.alloc (.cells #[.int .i64 0, .int .i64 0, .int .i64 0, .slice none 0 0] 26)).heap.size := by simp
  clear h
  go_enter Try.func17, Try.ntmps17
  go_wp2_with fail
  generalize w.alloc (.cells #[.int .i64 0, .int .i64 0, .int .i64 0, .slice none 0 0] 26) = w1 at f1 B0 S1 z1 ⊢
  refine (own_n a0 n c l w1 S1.out hn).mono ?_
  rintro e w2 ⟨a2, c2, rfl, O2, f2⟩
  have HO2 := Lib.hid O2
  have B1 : Hid (w2.heap[w.heap.size]? = some (.cells #[.int .i64 0, .int .i64 0, .int .i64 0, .slice none 0 0] 26 (0, 0))) := f2.obj B0.out (by simp)
  clear O2 B0
  go_wp2_with (refine wpList_store_bits rfl _ _ _ rfl w.heap.size rfl 26 #[.int .i64 0, .int .i64 att, .int .i64 0, .slice a2 n c2] #[.int .i64 0, .int .i64 0, .int .i64 0, .slice none 0 0] rfl B1.out rfl (by intro v hv; simp at hv; rcases hv with rfl | rfl | rfl | rfl <;> rfl) sizeAT ?_; refine Hid.out ?_)
  show wpList _ _ _ _ _ _
  have G9 := Lib.hid (setRow_heap _ _ _ (#[.int .i64 0, .int .i64 att, .int .i64 0, .slice a2 n c2] : Array Value) _ _ B1.out)
  have f9 : Fr [w.heap.size] w2 (w2.setRow w.heap.size #[.int .i64 0, .int .i64 att, .int .i64 0, .slice a2 n c2]) := (Fr.refl _ _).setRow _ _ (.inr (by simp))
  generalize w2.setRow w.heap.size #[.int .i64 0, .int .i64 att, .int .i64 0, .slice a2 n c2] = w9 at G9 f9 ⊢
  go_wp2_with fail
  refine bodyPost_ret (v := .agg #[.int .i64 0, .int .i64 att, .int .i64 0, .slice a2 n c2]) (results_cell_row rfl _ _ w.heap.size _ _ _ _ rfl G9.out Try.underlying26 rfl sizeAT) rfl ?_
  refine ⟨a2, c2, rfl, (HO2.out.keep f9 (fun x hx => by simp; omega)).mono (by omega), (f1.trans f2).via f9 (by simp)⟩

set_option maxRecDepth 100000 in
theorem lask_any (att : Int) (a0 : Option Addr) (n c : Nat) (l : Bs) (w : World) (h : Sl w a0 n c l) (hn : n ≤ 140737488355328) :
    Calls Try.prog 18 #[.int .i64 att, .slice a0 n c] w (ActW 1 att n l w) := by
  have f1 : Fr [] w (w.alloc (.cells #[.int .i64 0, .int .i64 0, .int .i64 0, .slice none 0 0] 26)) := (Fr.refl _ _).alloc _
  have B0 : Hid ((w.alloc (.cells #[.int .i64 0, .int .i64 0, .int .i64 0, .slice none 0 0] 26)).heap[w.heap.size]? = some (.cells #[.int .i64 0, .int .i64 0, .int .i64 0, .slice none 0 0] 26 (0, 0))) := Go.heap_alloc_new w _
  have S1 := Lib.hid (h.keep0 f1)
  have z1 : w.heap.size < (w.alloc (.cells #[.int .i64 0, .int .i64 0, .int .i64 0, .slice none 0 0] 26)).heap.size := by simp
  clear h
  go_enter Try.func18, Try.ntmps18
  go_wp2_with fail
  generalize w.alloc (.cells #[.int .i64 0, .int .i64 0, .int .i64 0, .slice none 0 0] 26) = w1 at f1 B0 S1 z1 ⊢
  refine (own_n a0 n c l w1 S1.out hn).mono ?_
  rintro e w2 ⟨a2, c2, rfl, O2, f2⟩
  have HO2 := Lib.hid O2
  have B1 : Hid (w2.heap[w.heap.size]? = some (.cells #[.int .i64 0, .int .i64 0, .int .i64 0, .slice none 0 0] 26 (0, 0))) := f2.obj B0.out (by simp)
  clear O2 B0
  go_wp2_with (refine wpList_store_bits rfl _ _ _ rfl w.heap.size rfl 26 #[.int .i64 1, .int .i64 att, .int .i64 0, .slice a2 n c2] #[.int .i64 0, .int .i64 0, .int .i64 0, .slice none 0 0] rfl B1.out rfl (by intro v hv; simp at hv; rcases hv with rfl | rfl | rfl | rfl <;> rfl) sizeAT ?_; refine Hid.out ?_)
  show wpList _ _ _ _ _ _
  have G9 := Lib.hid (setRow_heap _ _ _ (#[.int .i64 1, .int .i64 att, .int .i64 0, .slice a2 n c2] : Array Value) _ _ B1.out)
  have f9 : Fr [w.heap.size] w2 (w2.setRow w.heap.size #[.int .i64 1, .int .i64 att, .int .i64 0, .slice a2 n c2]) := (Fr.refl _ _).setRow _ _ (.inr (by simp))
  generalize w2.setRow w.heap.size #[.int .i64 1, .int .i64 att, .int .i64 0, .slice a2 n c2] = w9 at G9 f9 ⊢
  go_wp2_with fail
  refine bodyPost_ret (v := .agg #[.int .i64 1, .int .i64 att, .int .i64 0, .slice a2 n c2]) (results_cell_row rfl _ _ w.heap.size _ _ _ _ rfl G9.out Try.underlying26 rfl sizeAT) rfl ?_
  refine ⟨a2, c2, rfl, (HO2.out.keep f9 (fun x hx => by simp; omega)).mono (by omega), (f1.trans f2).via f9 (by simp)⟩

set_option maxRecDepth 100000 in
theorem lplain_any (k att : Int) (w : World) :
    Calls Try.prog 16 #[.int .i64 k, .int .i64 att] w fun e w' => e = .returned (.agg #[.int .i64 k, .int .i64 att, .int .i64 0, .slice none 0 0]) ∧ Fr [] w w' := by
  have f1 : Fr [] w (w.alloc (.cells #[.int .i64 0, .int .i64 0, .int .i64 0, .slice none 0 0] 26)) := (Fr.refl _ _).alloc _
  have B1 : Hid ((w.alloc (.cells #[.int .i64 0, .int .i64 0, .int .i64 0, .slice none 0 0] 26)).heap[w.heap.size]? = some (.cells #[.int .i64 0, .int .i64 0, .int .i64 0, .slice none 0 0] 26 (0, 0))) := Go.heap_alloc_new w _
  go_enter Try.func16, Try.ntmps16
  go_wp2_with (refine wpList_store_bits rfl _ _ _ rfl w.heap.size rfl 26 #[.int .i64 k, .int .i64 att, .int .i64 0, .slice none 0 0] #[.int .i64 0, .int .i64 0, .int .i64 0, .slice none 0 0] rfl B1.out rfl (by intro v hv; simp at hv; rcases hv with rfl | rfl | rfl | rfl <;> rfl) sizeAT ?_; refine Hid.out ?_)
  show wpList _ _ _ _ _ _
  have G9 := Lib.hid (setRow_heap _ _ _ (#[.int .i64 k, .int .i64 att, .int .i64 0, .slice none 0 0] : Array Value) _ _ B1.out)
  have f9 : Fr [w.heap.size] (w.alloc (.cells #[.int .i64 0, .int .i64 0, .int .i64 0, .slice none 0 0] 26)) ((w.alloc (.cells #[.int .i64 0, .int .i64 0, .int .i64 0, .slice none 0 0] 26)).setRow w.heap.size #[.int .i64 k, .int .i64 att, .int .i64 0, .slice none 0 0]) := (Fr.refl _ _).setRow _ _ (.inr (by simp))
  generalize (w.alloc (.cells #[.int .i64 0, .int .i64 0, .int .i64 0, .slice none 0 0] 26)).setRow w.heap.size #[.int .i64 k, .int .i64 att, .int .i64 0, .slice none 0 0] = w9 at G9 f9 ⊢
  go_wp2_with fail
  refine bodyPost_ret (v := .agg #[.int .i64 k, .int .i64 att, .int .i64 0, .slice none 0 0]) (results_cell_row rfl _ _ w.heap.size _ _ _ _ rfl G9.out Try.underlying26 rfl sizeAT) rfl ?_
  exact ⟨rfl, f1.via f9 (by simp)⟩

set_option maxRecDepth 100000 in
theorem lload_any (att pick : Int) (w : World) :
    Calls Try.prog 25 #[.int .i64 att, .int .i64 pick] w fun e w' => e = .returned (.agg #[.int .i64 9, .int .i64 att, .int .i64 pick, .slice none 0 0]) ∧ Fr [] w w' := by
  have f1 : Fr [] w (w.alloc (.cells #[.int .i64 0, .int .i64 0, .int .i64 0, .slice none 0 0] 26)) := (Fr.refl _ _).alloc _
  have B1 : Hid ((w.alloc (.cells #[.int .i64 0, .int .i64 0, .int .i64 0, .slice none 0 0] 26)).heap[w.heap.size]? = some (.cells #[.int .i64 0, .int .i64 0, .int .i64 0, .slice none 0 0] 26 (0, 0))) := Go.heap_alloc_new w _
  go_enter Try.func25, Try.ntmps25
  go_wp2_with (refine wpList_store_bits rfl _ _ _ rfl w.heap.size rfl 26 #[.int .i64 9, .int .i64 att, .int .i64 pick, .slice none 0 0] #[.int .i64 0, .int .i64 0, .int .i64 0, .slice none 0 0] rfl B1.out rfl (by intro v hv; simp at hv; rcases hv with rfl | rfl | rfl | rfl <;> rfl) sizeAT ?_; refine Hid.out ?_)
  show wpList _ _ _ _ _ _
  have G9 := Lib.hid (setRow_heap _ _ _ (#[.int .i64 9, .int .i64 att, .int .i64 pick, .slice none 0 0] : Array Value) _ _ B1.out)
  have f9 : Fr [w.heap.size] (w.alloc (.cells #[.int .i64 0, .int .i64 0, .int .i64 0, .slice none 0 0] 26)) ((w.alloc (.cells #[.int .i64 0, .int .i64 0, .int .i64 0, .slice none 0 0] 26)).setRow w.heap.size #[.int .i64 9, .int .i64 att, .int .i64 pick, .slice none 0 0]) := (Fr.refl _ _).setRow _ _ (.inr (by simp))
  generalize (w.alloc (.cells #[.int .i64 0, .int .i64 0, .int .i64 0, .slice none 0 0] 26)).setRow w.heap.size #[.int .i64 9, .int .i64 att, .int .i64 pick, .slice none 0 0] = w9 at G9 f9 ⊢
  go_wp2_with fail
  refine bodyPost_ret (v := .agg #[.int .i64 9, .int .i64 att, .int .i64 pick, .slice none 0 0]) (results_cell_row rfl _ _ w.heap.size _ _ _ _ rfl G9.out Try.underlying26 rfl sizeAT) rfl ?_
  exact ⟨rfl, f1.via f9 (by simp)⟩

/-- the bytes of a result -/
theorem RsI_sl {w : World} {base : Nat} {S : List Nat} {a : Option Addr} {n c : Nat} {rs : List Res} {vs : List (Option Addr × Nat)} (h : RsI 31 5 w base S a n c rs vs) (i : Nat) (hi : i < n) : Sl w (vs.getD i (none, 0)).1 (rs.getD i ⟨0, [], false, false⟩).data.length (vs.getD i (none, 0)).2 (rs.getD i ⟨0, [], false, false⟩).data := (h.own i hi).sl
attribute [local irreducible] wpStill in
set_option maxHeartbeats 400000 in
theorem tells_any (w : World) (base : Nat) (S : List Nat) (a : Option Addr) (n c : Nat) (rs : List Res) (vs : List (Option Addr × Nat)) (i : Nat) (ad : Option Addr) (nd cd : Nat) (want : Bs) (h : RsI 31 5 w base S a n c rs vs) (hi : i < n) (hS : Sl w ad nd cd want) :
    Calls Try.prog 23 #[.slice a n c, .int .i64 (i : Int), .slice ad nd cd] w (RetB ((rs.getD i ⟨0, [], false, false⟩).data == want) w) := by
  obtain ⟨g, hg, hnc, hcm, hcel⟩ := h.cells (by omega)
  subst hg
  unfold maxLen at hcm
  have q1 : w.cell? ⟨g, i * 4 + 1, none⟩ = some (.slice (vs.getD i (none, 0)).1 (rs.getD i ⟨0, [], false, false⟩).data.length (vs.getD i (none, 0)).2) := by
    rw [show i * 4 + 1 = 4 * i + 1 by omega, hcel i hi 1 (by decide)]
    rfl
  have S1 := Lib.hid (RsI_sl h i hi)
  clear hcel h
  generalize (rs.getD i ⟨0, [], false, false⟩).data = dat at q1 S1 ⊢
  generalize (vs.getD i (none, 0)).1 = av at q1 S1
  generalize (vs.getD i (none, 0)).2 = cv at q1 S1
  obtain ⟨dl, hdl⟩ : ∃ dl, dl = dat.length := ⟨_, rfl⟩
  rw [← hdl] at q1 S1
  have HS := Lib.hid hS
  clear hS hdl
  have hin : (i : Int) < (n : Int) := by omega
  have hind : decide ((i : Int) < (n : Int)) = true := by simp; omega
  have h0 : decide ((0 : Int) ≤ (i : Int)) = true := by simp
  go_enter Try.func23, Try.ntmps23
  go_wp2_with fail
  refine (same_any av ad dl nd cv cd dat want w S1.out HS.out).mono ?_
  rintro e w2 ⟨rfl, f2⟩
  go_wp2_with fail
  go_ret
  exact ⟨rfl, f2⟩

end Go.Proofs.Ytjgdbamlaajkmaa
end

section
namespace Go.Sha
open Go.RowKit
theorem Sl.nil0 (w : World) : Sl w none 0 0 [] := ⟨rfl, Nat.le_refl _, by simp [maxLen], .inl rfl⟩
def acCells (p : Actn × (Option Addr × Nat × Nat)) : List Value := [.int .i64 p.1.k, .int .i64 p.1.at_, .int .i64 p.1.pick, .slice p.2.1 p.2.2.1 p.2.2.2]
/-- a list of calls that was just built -/
theorem ActsAt.of_list {w : World} {g T : Nat} (xs : List (Actn × (Option Addr × Nat × Nat))) (h : w.heap[g]? = some (.cells (xs.flatMap acCells).toArray T (0, 0))) (hS : ∀ p ∈ xs, Sl w p.2.1 p.2.2.1 p.2.2.2 p.1.data ∧ p.2.2.1 ≤ 140737488351232) (hm : xs.length ≤ maxLen) :
    ActsAt w (some ⟨g, 0, none⟩) xs.length xs.length (xs.map (·.1)) := by
  refine ⟨by simp, Nat.le_refl _, hm, .inr ⟨g, 0, rfl, fun i hi => ?_⟩⟩
  have hx : xs[i]? = some xs[i] := List.getElem?_eq_getElem hi
  have hd : (xs.map (·.1)).getD i ⟨0, 0, 0, []⟩ = xs[i].1 := by simp [List.getD_eq_getElem?_getD, hx]
  rw [hd]
  have hc : ∀ j, j < 4 → w.cell? ⟨g, 0 + 4 * i + j, none⟩ = (acCells xs[i])[j]? := fun j hj => by
    rw [Nat.zero_add, cell_of h, List.getElem?_toArray, flatMap_get4 acCells (fun _ => rfl) _ _ _ hj, hx]
    rfl
  have hp := hS xs[i] (List.getElem_mem hi)
  exact ⟨_, _, _, hc 0 (by decide), hc 1 (by decide), hc 2 (by decide), hc 3 (by decide), hp.1, hp.2⟩
end Go.Sha
namespace Go.Proofs.Ytjgdbamlaajkmaa
open Go.ChangeShapes Go.WideShapes Go.ChangeAt Go.RowKit Go.Sha
theorem RsI_cell {w : World} {base : Nat} {S : List Nat} {g n c : Nat} {rs : List Res} {vs : List (Option Addr × Nat)} (h : RsI 31 5 w base S (some ⟨g, 0, none⟩) n c rs vs) (i j : Nat) (hi : i < n) (hj : j < 4) : w.cell? ⟨g, 4 * i + j, none⟩ = (resCells (rs.getD i ⟨0, [], false, false⟩, vs.getD i (none, 0)))[j]? := by
  obtain ⟨g', hg, _, _, hc⟩ := h.cells (by omega)
  simp only [Option.some.injEq, Addr.mk.injEq] at hg
  obtain ⟨rfl, _, _⟩ := hg
  exact hc i hi j hj
theorem tells_t (w : World) (base : Nat) (S : List Nat) (a : Option Addr) (n c : Nat) (rs : List Res) (vs : List (Option Addr × Nat)) (i : Nat) (ad : Option Addr) (nd cd : Nat) (want : Bs) (h : RsI 31 5 w base S a n c rs vs) (hi : i < n) (hS : Sl w ad nd cd want) (he : (rs.getD i ⟨0, [], false, false⟩).data = want) :
    Calls Try.prog 23 #[.slice a n c, .int .i64 (i : Int), .slice ad nd cd] w (RetB true w) := by
  have := tells_any w base S a n c rs vs i ad nd cd want h hi hS
  rwa [show ((rs.getD i ⟨0, [], false, false⟩).data == want) = true by rw [he]; simp] at this
end Go.Proofs.Ytjgdbamlaajkmaa
end

section
namespace Go.Proofs.Ytjgdbamlaajkmaa
open Go.ChangeShapes Go.WideShapes Go.ChangeAt Go.RowKit Go.Sha
theorem joined_any (a0 b0 : Option Addr) (n m ca cb : Nat) (x y : Bs) (w : World) (hx : Sl w a0 n ca x) (hy : Sl w b0 m cb y) (hn : n + m ≤ 140737488355328) :
    Calls Try.prog 22 #[.slice a0 n ca, .slice b0 m cb] w fun e w' => ∃ a c, e = .returned (.slice a (n + m) c) ∧ Ow w' w.heap.size 5 a c (x ++ y) ∧ Fr [] w w' := by
  obtain ⟨i0, hi, hz0, hz1, hz2⟩ := info_parts info5
  have HX := Lib.hid hx
  have HY := Lib.hid hy
  clear hx hy
  go_enter Try.func22, Try.ntmps22
  go_wp2_with fail
  refine (own_n a0 n ca x w HX.out (by omega)).mono ?_
  rintro e w1 ⟨a1, c1, rfl, o1, f1⟩
  obtain ⟨xs, hxs⟩ : ∃ xs, xs = x.map bv := ⟨_, rfl⟩
  obtain ⟨ys, hys⟩ : ∃ ys, ys = y.map bv := ⟨_, rfl⟩
  have O1 : Hid (w1.ownsRow w.heap.size 5 1 (.slice a1 n c1) n xs) := by rw [hxs]; exact Ow.row' o1 HX.out.len
  have Y1 : Hid (Src Try.prog 1 22 (.slice b0 m cb) m ys w1) := by rw [hys]; exact (HY.out.keep0 f1).src Try.underlying22
  have HO := Lib.hid o1
  have HXY := Lib.hid (And.intro hxs hys)
  have X1 : Hid (n + m ≤ maxLen) := by show _ ≤ _; unfold maxLen; omega
  have X2 : Hid ((n + m) * 1 ≤ 140737488355328) := by show _ ≤ _; omega
  have X3 : Hid (w.heap.size ≤ w1.heap.size) := f1.size
  clear hxs hys o1
  go_wp2_with (at_builtin; refine wpList_append_src _ rfl _ _ 22 22 rfl w.heap.size 5 i0 (.int .u8 0) 1 1 Try.underlying22 hi hz0 hz1 hz2 rfl a1 n c1 xs rfl O1.out _ m ys rfl Y1.out X1.out X2.out X3.out ?_)
  intro a2 c2 w2 ho hg
  have F2 : Fr [] w w2 := f1.grown hg (fun q hq => .inl (HO.out.own_ge (n := n) q (by rw [hq]; simp)))
  have O2 : Ow w2 w.heap.size 5 a2 c2 (x ++ y) := Ow.of ho (by rw [List.length_append, HX.out.len, HY.out.len]) (by rw [HXY.out.1, HXY.out.2, List.map_append])
  have H2 := Lib.hid O2
  clear ho hg O2 O1 Y1 X1 X2 X3
  go_wp2_with fail
  go_ret
  exact ⟨a2, c2, rfl, H2.out, F2⟩
end Go.Proofs.Ytjgdbamlaajkmaa
end
