/- Contracts and lemmas, merged: As, ToA. Their conditions stand in each. -/
import Derived.Test.YtmainjpffaebfaaGA
import Derived.Test.YtmainjpffaebfaaGB
import Derived.Test.YtmainjpffaebfaaGC
import Derived.Test.YtmainjpffaebfaaGG
import Derived.Test.YtmainjpffaebfaaGH
import Derived.Test.YtmainjpffaebfaaGN
import Derived.Deep.RegionHeld3
section
namespace Go.Sha
open Go.RowKit
structure AsI (AT : Nat) (w : World) (base : Nat) (a : Option Addr) (n c : Nat) (xs : List Actn) (vs : List (Option Addr × Nat × Nat)) : Prop where
  len : xs.length = n
  vlen : vs.length = n
  row : w.ownsRow base AT 4 (.slice a n c) n ((xs.zip vs).flatMap acCells)
  sl : ∀ i, i < n → Sl w (vs.getD i (none, 0, 0)).1 (vs.getD i (none, 0, 0)).2.1 (vs.getD i (none, 0, 0)).2.2 (xs.getD i ⟨0, 0, 0, []⟩).data ∧ (vs.getD i (none, 0, 0)).2.1 ≤ 140737488351232
  ne : ∀ i, i < n → ∀ x, (vs.getD i (none, 0, 0)).1 = some x → (vs.getD i (none, 0, 0)).2.1 ≠ 0 → ∀ y, a = some y → x.block ≠ y.block
theorem AsI.nil (AT : Nat) (w : World) (base : Nat) : AsI AT w base none 0 0 [] [] :=
  ⟨rfl, rfl, World.ownsRow_nil _ _ _ _, (fun i hi => by omega), (fun i hi => by omega)⟩
theorem AsI.keep0 {AT : Nat} {w w' : World} {base : Nat} {a : Option Addr} {n c : Nat} {xs : List Actn} {vs : List (Option Addr × Nat × Nat)} (h : AsI AT w base a n c xs vs) (hf : Fr [] w w') : AsI AT w' base a n c xs vs :=
  ⟨h.len, h.vlen, ownsRow_keep h.row hf (fun k hk => by simp), fun i hi => ⟨(h.sl i hi).1.keep0 hf, (h.sl i hi).2⟩, h.ne⟩
/-- one call more -/
theorem AsI.push {AT : Nat} {w wB wC : World} {base : Nat} {a a' : Option Addr} {n c c' : Nat} {xs : List Actn} {vs : List (Option Addr × Nat × Nat)} (h : AsI AT w base a n c xs vs) {x : Actn} {v : Option Addr × Nat × Nat} (hf : Fr [] w wB)
    (hO : Sl w v.1 v.2.1 v.2.2 x.data) (hb : v.2.1 ≤ 140737488351232) (hv : ∀ y, v.1 = some y → v.2.1 ≠ 0 → ∀ z, a = some z → y.block ≠ z.block)
    (ho : wC.ownsRow base AT 4 (.slice a' (n + 1) c') (n + 1) ((xs.zip vs).flatMap acCells ++ acCells (x, v))) (hgr : wB.grownBy wC (Value.slice a n c).ownBlock) (ha : a' = a ∨ a' = some ⟨wB.heap.size, 0, none⟩) :
    AsI AT wC base a' (n + 1) c' (xs ++ [x]) (vs ++ [v]) := by
  have fBC : Fr (blkOf a) wB wC := by
    rw [← ownBlock_blkOf a n c]
    exact (Fr.refl _ _).grown hgr (fun k hk => by rw [hk]; exact .inr (by simp))
  have hsz := hf.size
  have keepSl : ∀ {ad : Option Addr} {nd cd : Nat} {l : Bs}, Sl w ad nd cd l → (∀ y, ad = some y → nd ≠ 0 → ∀ z, a = some z → y.block ≠ z.block) → Sl wC ad nd cd l := fun {ad nd cd l} hw hne =>
    (hw.keep0 hf).keep fBC (fun y hy hn hm => by
      obtain ⟨z, hz, e⟩ := mem_blkOf.1 hm
      exact hne y hy hn z hz e.symm)
  have hnr : ∀ {ad : Option Addr} {nd cd : Nat} {l : Bs}, Sl w ad nd cd l → (∀ y, ad = some y → nd ≠ 0 → ∀ z, a = some z → y.block ≠ z.block) → ∀ y, ad = some y → nd ≠ 0 → ∀ z, a' = some z → y.block ≠ z.block := fun {ad nd cd l} hw hne y hy hn z hz => by
    rcases ha with rfl | rfl
    · exact hne y hy hn z hz
    · simp only [Option.some.injEq] at hz
      subst hz
      have := hw.lt hy hn
      simp only
      omega
  have hold : ∀ i, i < n → (vs ++ [v]).getD i (none, 0, 0) = vs.getD i (none, 0, 0) ∧ (xs ++ [x]).getD i ⟨0, 0, 0, []⟩ = xs.getD i ⟨0, 0, 0, []⟩ := fun i hi => ⟨getD_append_lt _ _ _ _ (by rw [h.vlen]; exact hi), getD_append_lt _ _ _ _ (by rw [h.len]; exact hi)⟩
  have hnew : (vs ++ [v]).getD n (none, 0, 0) = v ∧ (xs ++ [x]).getD n ⟨0, 0, 0, []⟩ = x := ⟨by rw [← h.vlen]; exact getD_append_eq _ _ _, by rw [← h.len]; exact getD_append_eq _ _ _⟩
  refine ⟨by simp [h.len], by simp [h.vlen], ?_, fun i hi => ?_, fun i hi => ?_⟩
  · rw [zip_snoc _ _ _ _ (by rw [h.len, h.vlen]), List.flatMap_append]
    simpa using ho
  · by_cases e : i < n
    · rw [(hold i e).1, (hold i e).2]
      exact ⟨keepSl (h.sl i e).1 (h.ne i e), (h.sl i e).2⟩
    · obtain rfl : i = n := by omega
      rw [hnew.1, hnew.2]
      exact ⟨keepSl hO hv, hb⟩
  · by_cases e : i < n
    · rw [(hold i e).1]
      exact hnr (h.sl i e).1 (h.ne i e)
    · obtain rfl : i = n := by omega
      rw [hnew.1]
      exact hnr hO hv
/-- as a list of calls in memory -/
theorem AsI.acts {AT : Nat} {w : World} {base : Nat} {a : Option Addr} {n c : Nat} {xs : List Actn} {vs : List (Option Addr × Nat × Nat)} (h : AsI AT w base a n c xs vs) : ActsAt w a n c xs := by
  rcases h.row.2 with ⟨h3, h0⟩ | ⟨g, cap, cur, hv, hb', hg, hnn, hm, hs, ht⟩
  · simp only [Value.slice.injEq] at h3
    obtain ⟨rfl, h3, rfl⟩ := h3
    exact ⟨h.len, by omega, by simp [maxLen], .inl h0⟩
  · simp only [Value.slice.injEq] at hv
    obtain ⟨rfl, _, rfl⟩ := hv
    refine ⟨h.len, hnn, hm, .inr ⟨g, 0, rfl, fun i hi => ?_⟩⟩
    have hc : ∀ j, j < 4 → w.cell? ⟨g, 0 + 4 * i + j, none⟩ = (acCells (xs.getD i ⟨0, 0, 0, []⟩, vs.getD i (none, 0, 0)))[j]? := fun j hj => by
      have e1 : ((xs.zip vs).flatMap acCells)[4 * i + j]? = (acCells (xs.getD i ⟨0, 0, 0, []⟩, vs.getD i (none, 0, 0)))[j]? := by
        have e0 : (xs.zip vs)[i]? = some (xs.getD i ⟨0, 0, 0, []⟩, vs.getD i (none, 0, 0)) := by
          rw [List.getElem?_zip_eq_some]
          simp [List.getD_eq_getElem?_getD, List.getElem?_eq_getElem (show i < xs.length by rw [h.len]; exact hi), List.getElem?_eq_getElem (show i < vs.length by rw [h.vlen]; exact hi)]
        rw [flatMap_get4 acCells (fun _ => rfl) _ _ _ hj, e0]
        rfl
      have e2 : (acCells (xs.getD i ⟨0, 0, 0, []⟩, vs.getD i (none, 0, 0)))[j]? = some ((acCells (xs.getD i ⟨0, 0, 0, []⟩, vs.getD i (none, 0, 0)))[j]'hj) := List.getElem?_eq_getElem _
      rw [e2] at e1 ⊢
      have := h.row.cells (g := g) rfl (4 * i + j) _ e1
      have hadd : (⟨g, 0, none⟩ : Addr).add (4 * i + j) = ⟨g, 4 * i + j, none⟩ := by unfold Addr.add; split <;> simp_all
      rw [hadd] at this
      rwa [Nat.zero_add]
    exact ⟨_, _, _, hc 0 (by decide), hc 1 (by decide), hc 2 (by decide), hc 3 (by decide), (h.sl i hi).1, (h.sl i hi).2⟩
theorem Src_act {P : Program} {tx e' : TypeId} {w : World} (hk : P.underlying tx = some (.slice e')) (x : Actn) (v : Option Addr × Nat × Nat) (E : Nat) : Src P 4 tx (.slice (some ⟨w.heap.size, 0, none⟩) 1 1) 1 (acCells (x, v)) (w.alloc (.cells #[.int .i64 x.k, .int .i64 x.at_, .int .i64 x.pick, .slice v.1 v.2.1 v.2.2] E)) := by
  refine Src.ofSlice _ hk ⟨w.heap.size, 0, none⟩ 1 1 (acCells (x, v)) rfl (fun j u hu => ?_) (by intro u hu; simp only [acCells, List.mem_cons, List.not_mem_nil, or_false] at hu; rcases hu with rfl | rfl | rfl | rfl <;> rfl)
  have h := Go.heap_alloc_new w (.cells #[.int .i64 x.k, .int .i64 x.at_, .int .i64 x.pick, .slice v.1 v.2.1 v.2.2] E)
  have e : (⟨w.heap.size, 0, none⟩ : Addr).add j = ⟨w.heap.size, j, none⟩ := by unfold Addr.add; split <;> simp_all
  rw [e, cell_of h]
  show (acCells (x, v)).toArray[j]? = some u
  simpa using hu
end Go.Sha
end

section
namespace Go.Proofs.Ytmainjpffaebfaa
open Go.ChangeShapes Go.WideShapes Go.ChangeAt Go.RowKit Go.Sha
theorem infoAT : (Try.prog.info? 27).map (fun i => (i.zero, i.size, i.bytes)) = some (some (.agg #[.int .i64 0, .int .i64 0, .int .i64 0, .slice none 0 0]), 4, 48) := by kernel_rfl
/-- a step's four cells -/
structure V4 (b : Nat) (k att pick : Int) (ad : Option Addr) (nd cd : Nat) (w : World) : Prop where
  all : w.cell? ⟨b, 0, none⟩ = some (.int .i64 k) ∧ w.cell? ⟨b, 1, none⟩ = some (.int .i64 att) ∧ w.cell? ⟨b, 2, none⟩ = some (.int .i64 pick) ∧ w.cell? ⟨b, 3, none⟩ = some (.slice ad nd cd)
theorem V4.keep {S : List Nat} {b : Nat} {k att pick : Int} {ad : Option Addr} {nd cd : Nat} {w w' : World} (h : V4 b k att pick ad nd cd w) (hf : Fr S w w') (hb : b ∉ S) : V4 b k att pick ad nd cd w' :=
  ⟨hf.cell h.all.1 hb, hf.cell h.all.2.1 hb, hf.cell h.all.2.2.1 hb, hf.cell h.all.2.2.2 hb⟩
theorem V4.new (w : World) (T : Nat) (k att pick : Int) (ad : Option Addr) (nd cd : Nat) : V4 w.heap.size k att pick ad nd cd (w.alloc (.cells #[.int .i64 k, .int .i64 att, .int .i64 pick, .slice ad nd cd] T)) := by
  have h := Go.heap_alloc_new w (.cells #[.int .i64 k, .int .i64 att, .int .i64 pick, .slice ad nd cd] T)
  exact ⟨by rw [cell_of h]; rfl, by rw [cell_of h]; rfl, by rw [cell_of h]; rfl, by rw [cell_of h]; rfl⟩
def TaRel (w : World) (n : Nat) (xs : List Actn) (out iv : Value) (wr : World) : Prop :=
  ∃ i a c vs, i ≤ n ∧ iv = .int .i64 ((i : Nat) : Int) ∧ out = .slice a i c ∧ AsI 27 wr w.heap.size a i c (xs.take i) vs ∧ Fr [] w wr
set_option maxRecDepth 100000 in
set_option maxHeartbeats 1600000 in
theorem toActs_any (w : World) (a : Option Addr) (n c : Nat) (xs : List Actn) (h : ActsAt w a n c xs) (hn : n ≤ 2932031007317) :
    Calls Try.prog 19 #[.slice a n c] w fun e w' => ∃ a' c' vs, e = .returned (.slice a' n c') ∧ AsI 27 w' w.heap.size a' n c' xs vs ∧ Fr [] w w' := by
  obtain ⟨i0, hi0, hz0, hz1, hz2⟩ := info_parts infoAT
  have HA := Lib.hid h
  have hcap := h.cap
  have hmx := h.max
  unfold maxLen at hmx
  clear h
  go_enter Try.func19, Try.ntmps19
  go_wp2_with fail
  go_loopw [3, 8] (fun out iv wr => TaRel w n xs out iv wr) (fun _ iv _ => n - (intOf iv).toNat)
  case atStart => exact ⟨0, none, 0, [], by omega, rfl, rfl, AsI.nil _ _ _, Fr.refl _ _⟩
  case round =>
    obtain ⟨i, ao, co, vs, hi, rfl, rfl, hR, hf⟩ := hrel
    have HR := Lib.hid hR
    clear hR
    by_cases hlt : i < n
    · obtain ⟨b, ob, rfl, hcel⟩ : ∃ b ob, a = some ⟨b, ob, none⟩ ∧ ∀ i, i < n → ∃ ad nd cd, wr.cell? ⟨b, ob + 4 * i, none⟩ = some (.int .i64 (xs.getD i ⟨0, 0, 0, []⟩).k) ∧ wr.cell? ⟨b, ob + 4 * i + 1, none⟩ = some (.int .i64 (xs.getD i ⟨0, 0, 0, []⟩).at_) ∧ wr.cell? ⟨b, ob + 4 * i + 2, none⟩ = some (.int .i64 (xs.getD i ⟨0, 0, 0, []⟩).pick) ∧ wr.cell? ⟨b, ob + 4 * i + 3, none⟩ = some (.slice ad nd cd) ∧ Sl wr ad nd cd (xs.getD i ⟨0, 0, 0, []⟩).data ∧ nd ≤ 140737488351232 := by
        rcases (HA.out.keep hf (by simp)).cel with h0 | h0
        · omega
        · exact h0
      obtain ⟨ad, nd, cd, p0, p1, p2, p3, hS, hnd⟩ := hcel i hlt
      clear hcel
      rw [show ob + 4 * i = ob + i * 4 by omega] at p0 p1 p2 p3
      obtain ⟨x, hx⟩ : ∃ x, x = xs.getD i ⟨0, 0, 0, []⟩ := ⟨_, rfl⟩
      rw [← hx] at p0 p1 p2 hS
      obtain ⟨k, att, pick, data⟩ := x
      simp only at p0 p1 p2 hS
      have HX := Lib.hid hx
      obtain ⟨g, hg⟩ : ∃ g, g = wr.heap.size := ⟨_, rfl⟩
      have f2 : Fr [] wr (wr.alloc (.cells #[.int .i64 k, .int .i64 att, .int .i64 pick, .slice ad nd cd] 62)) := (Fr.refl _ _).alloc _
      have V2 : V4 g k att pick ad nd cd (wr.alloc (.cells #[.int .i64 k, .int .i64 att, .int .i64 pick, .slice ad nd cd] 62)) := by rw [hg]; exact V4.new wr 62 k att pick ad nd cd
      have z2 : g < (wr.alloc (.cells #[.int .i64 k, .int .i64 att, .int .i64 pick, .slice ad nd cd] 62)).heap.size := by rw [hg]; simp
      have S2 := Lib.hid (hS.keep0 f2)
      have R2 := Lib.hid (HR.out.keep0 f2)
      have F2 := hf.trans f2
      have hao : ∀ z, ao = some z → z.block ≠ g := fun z hz => by
        have := (ownsRow_lt HR.out.row (show (Value.slice ao i co).ownBlock = some z.block by rw [hz]; rfl)).2
        omega
      have HAO := Lib.hid hao
      clear hx hS HR hf f2 hao
      go_wp2_with fail
      try rw [← hg]
      clear p0 p1 p2 p3
      generalize wr.alloc (.cells #[.int .i64 k, .int .i64 att, .int .i64 pick, .slice ad nd cd] 62) = w2 at V2 S2 R2 F2 z2 ⊢
      have HG := Lib.hid hg
      clear hg
      have V2d := V2.keep (Fr.refl [] _).drew (by simp)
      obtain ⟨XS, hXS⟩ : ∃ XS, XS = ((xs.take i).zip vs).flatMap acCells := ⟨_, rfl⟩
      have HXS := Lib.hid hXS
      have X1 : Hid (i + 1 ≤ maxLen) := by show _ ≤ _; unfold maxLen; omega
      have X2 : Hid ((i + 1) * 48 ≤ 140737488355328) := by show _ ≤ _; omega
      clear hXS V2
      go_region_held3 (fun w' => w'.cell? ⟨g, 0, none⟩ = some (.int .i64 k) ∧ w'.cell? ⟨g, 1, none⟩ = some (.int .i64 att) ∧ w'.cell? ⟨g, 2, none⟩ = some (.int .i64 pick) ∧ w'.cell? ⟨g, 3, none⟩ = some (.slice ad nd cd))
        (first | (exact V5.all) | (exact V3.all) | (exact (V3.keep ((Fr.refl [] _).alloc _) (by simp)).all) | (exact V2d.all))
        (first
          | (go_at_call 10; refine (own_n ad nd cd data _ (S2.out.keep0 (Fr.refl _ _).drew) (by omega)).mono ?_; rintro e w3 ⟨a3, c3, rfl, O3, f3⟩; have V3 := V2d.keep f3 (by simp); have HO3 := Lib.hid (O3.sl_at (show data.length = nd from S2.out.len)); have HN3 : Hid (∀ y, a3 = some y → nd ≠ 0 → ∀ z, ao = some z → y.block ≠ z.block) := (fun y hy _ z hz => by (have h1 : w2.heap.size ≤ y.block := (by subst hy; exact O3.block.2.2.1)); (have h2 := (ownsRow_lt R2.out.row (show (Value.slice ao i co).ownBlock = some z.block by rw [hz]; rfl)).2); omega); have R3 := Lib.hid ((R2.out.keep0 (Fr.refl _ _).drew).keep0 f3); have F3 := (F2.drew).trans f3; clear O3)
          | (refine step_append_srcN _ rfl _ _ 30 30 rfl w.heap.size 27 i0 (.agg #[.int .i64 0, .int .i64 0, .int .i64 0, .slice none 0 0]) 4 48 Try.underlying30 hi0 hz0 hz1 hz2 rfl ao i co XS rfl (by rw [HXS.out]; exact (R3.out.keep0 ((Fr.refl _ _).alloc _)).row) _ 1 (acCells (⟨k, att, pick, data⟩, (a3, nd, c3))) rfl (Src_act Try.underlying30 ⟨k, att, pick, data⟩ (a3, nd, c3) 27) X1.out X2.out (by have := F3.size; simp; omega) ?_; intro a5 c5 w5 ho5 hg5 ha5; have f5 : Fr (blkOf ao) (w3.alloc (.cells #[.int .i64 k, .int .i64 att, .int .i64 pick, .slice a3 nd c3] 27)) w5 := (by rw [← ownBlock_blkOf ao i co]; exact (Fr.refl _ _).grown hg5 (fun q hq => by rw [hq]; exact .inr (by simp))); have V5 := (V3.keep ((Fr.refl [] _).alloc _) (by simp)).keep f5 (fun hm => by (obtain ⟨z, hz, e⟩ := mem_blkOf.1 hm); exact HAO.out z hz e); have R5 := Lib.hid (R3.out.push (x := ⟨k, att, pick, data⟩) (v := (a3, nd, c3)) ((Fr.refl _ _).alloc _) HO3.out hnd HN3.out (by rw [← HXS.out]; exact ho5) hg5 (by simpa using ha5)); have F5 := Lib.hid ((F3.alloc _).via f5 (fun q hq => by (obtain ⟨z, hz, e⟩ := mem_blkOf.1 hq); rw [← e]; exact (ownsRow_lt R3.out.row (show (Value.slice ao i co).ownBlock = some z.block by rw [hz]; rfl)).1)); clear ho5 hg5 ha5 f5))
      go_wp2_with fail
      refine ⟨⟨i + 1, a5, c5, vs ++ [(a3, nd, c3)], by omega, by simp, rfl, ?_, F5.out⟩, by simp [intOf]; omega⟩
      have e7 : xs.take (i + 1) = xs.take i ++ [⟨k, att, pick, data⟩] := by
        rw [List.take_succ_eq_append_getElem (by rw [HA.out.len]; exact hlt), HX.out, List.getD_eq_getElem?_getD, List.getElem?_eq_getElem (by rw [HA.out.len]; exact hlt)]
        rfl
      rw [e7]
      exact R5.out
    · obtain rfl : i = n := by omega
      have HF := Lib.hid hf
      clear hf
      go_wp2_with fail
      go_ret
      rw [List.take_of_length_le (by rw [HA.out.len]; exact Nat.le_refl _)] at HR
      exact ⟨ao, co, vs, rfl, HR.out, HF.out⟩
end Go.Proofs.Ytmainjpffaebfaa
end
