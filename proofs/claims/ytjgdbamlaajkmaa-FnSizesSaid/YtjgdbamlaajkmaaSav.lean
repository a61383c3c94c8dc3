/- One call of a script over hashes: a saved state. No condition but on lengths. -/
import Derived.Test.YtjgdbamlaajkmaaCln
import Derived.Lib.MinMax
namespace Go.Sha
open Go.RowKit
/-- the end of a slice -/
theorem Sl.drop {w : World} {b o n c : Nat} {l : Bs} (h : Sl w (some ⟨b, o, none⟩) n c l) (k : Nat) (hk : k ≤ n) (h0 : n ≠ 0) : Sl w (some ⟨b, o + k, none⟩) (n - k) (c - k) (l.drop k) := by
  have h1 := h.len
  have h2 := h.cap
  have h3 := h.max
  refine ⟨by simp; omega, by omega, by omega, ?_⟩
  rcases h.cel with h4 | ⟨b', o', e, hc⟩
  · exact absurd h4 h0
  · simp only [Option.some.injEq, Addr.mk.injEq] at e
    obtain ⟨rfl, rfl, _⟩ := e
    refine .inr ⟨b, o + k, rfl, fun i hi => ?_⟩
    rw [Nat.add_assoc, hc (k + i) (by omega)]
    simp [List.getD_eq_getElem?_getD]
end Go.Sha
namespace Go.Proofs.Ytjgdbamlaajkmaa
open Go.ChangeShapes Go.WideShapes Go.ChangeAt Go.RowKit Go.Sha
theorem Ow_at0 {w : World} {base e c : Nat} {a : Option Addr} {l : Bs} (h : Ow w base e a c l) (hl : 0 < l.length) : ∃ g, a = some ⟨g, 0, none⟩ ∧ base ≤ g ∧ l.length ≤ c ∧ c ≤ maxLen := by
  obtain ⟨g, cur, h1, h2, _, h3, h4, _⟩ := h.open hl
  exact ⟨g, h1, h2, h3, h4⟩
theorem infoSU : (Try.prog.info? 22).map (fun i => (i.zero, i.size, i.bytes)) = some (some (.slice none 0 0), 1, 24) := by kernel_rfl
theorem saved_cell {w : World} {base hb : Nat} {kind : Int} {r o : Nat} {all saved : List Bs} {bs : List Nat} {ss : List (Nat × Nat)} {a1 a2 : Option Addr} {c1 c2 : Nat} {S : List Nat} (h : HI 50 45 22 60 w base hb kind r o all saved bs ss a1 c1 a2 c2 S) {n : Nat} (hn : saved.length = n) :
    w.cell? ⟨hb, 2, none⟩ = some (.slice a2 n c2) ∧ w.frozen? ⟨hb, 2, none⟩ = false := by
  subst hn
  exact ⟨by rw [cell_of h.blk]; rfl, by simp [World.frozen?, h.blk]⟩
theorem grown_blk2 {wB wC : World} {base hb : Nat} {kind : Int} {r o : Nat} {all saved : List Bs} {bs : List Nat} {ss : List (Nat × Nat)} {a1 a2 : Option Addr} {c1 c2 n : Nat} {S : List Nat} (h : HI 50 45 22 60 wB base hb kind r o all saved bs ss a1 c1 a2 c2 S) (hn : saved.length = n) (hgr : wB.grownBy wC (Value.slice a2 n c2).ownBlock) :
    wC.cell? ⟨hb, 2, none⟩ = some (.slice a2 n c2) ∧ wC.frozen? ⟨hb, 2, none⟩ = false := by
  subst hn
  have fBC : Fr (blkOf a2) wB wC := by
    rw [← ownBlock_blkOf a2 saved.length c2]
    exact (Fr.refl _ _).grown hgr (fun k hk => by rw [hk]; exact .inr (by simp))
  have hblkC := fBC.obj h.blk (fun hm => by
    obtain ⟨x, hx, e⟩ := mem_blkOf.1 hm
    exact (h.a2bs x hx).1 e)
  exact ⟨by rw [cell_of hblkC]; rfl, by simp [World.frozen?, hblkC]⟩
theorem save_sub {wB : World} {a2 a2' : Option Addr} {S : List Nat} {N : Nat} (ha : a2' = a2 ∨ a2' = some ⟨wB.heap.size, 0, none⟩) (h1 : ∀ x, a2 = some x → x.block ∈ S) (hB : N ≤ wB.heap.size) : ∀ k ∈ blkOf a2' ++ S, k ∈ S ∨ N ≤ k := fun k hk => by
  rcases List.mem_append.1 hk with hk | hk
  · obtain ⟨x, hx, rfl⟩ := mem_blkOf.1 hk
    rcases ha with rfl | rfl
    · exact .inl (h1 x hx)
    · simp only [Option.some.injEq] at hx
      subst hx
      exact .inr hB
  · exact .inl hk
/-- what a saved state leaves -/
def SvR (base hb : Nat) (kind : Int) (r o : Nat) (p : Bs) (all saved : List Bs) (S : List Nat) (w : World) (e : Ending) (w' : World) : Prop :=
  ∃ a c bs' ss' a1' c1' a2' c2' S', e = .returned (.agg #[.int .i64 0, .slice a p.length c, .bool true, .bool false]) ∧ Ow w' w.heap.size 5 a c p ∧ HI 50 45 22 60 w' base hb kind r o all saved bs' ss' a1' c1' a2' c2' S' ∧ Fr S w w' ∧ (∀ k ∈ S', k ∈ S ∨ w.heap.size ≤ k) ∧ ∀ y, a = some y → y.block ∉ S'
set_option maxRecDepth 100000 in
set_option maxHeartbeats 800000 in
theorem hsave_any (w : World) (base hb : Nat) (kind : Int) (r o : Nat) (all saved : List Bs) (bs : List Nat) (ss : List (Nat × Nat)) (a1 a2 : Option Addr) (c1 c2 : Nat) (S : List Nat) (abf : Option Addr) (nb cbf gs os cs : Nat) (p d : Bs) (h : HI 50 45 22 60 w base hb kind r o all saved bs ss a1 c1 a2 c2 S) (hp : p.length = nb) (hSt : Sl w (some ⟨gs, os, none⟩) (nb + 207) cs (p ++ marH r o d)) (hgs : gs ∉ S) (hnb : nb ≤ 140737488351232) (hsv : saved.length ≤ 1099511627776) :
    Calls Try.prog 44 #[.pointer (some ⟨hb, 0, none⟩), .slice abf nb cbf, .slice (some ⟨gs, os, none⟩) (nb + 207) cs, .nilIface] w (SvR base hb kind r o p all (saved ++ [d]) S w) := by
  obtain ⟨i0, hi0, hz0, hz1, hz2⟩ := info_parts infoSU
  obtain ⟨n, hnl⟩ : ∃ n, n = saved.length := ⟨_, rfl⟩
  have HNL : Hid (saved.length = n) := hnl.symm
  rw [← hnl] at hsv
  have HH := Lib.hid h
  have hbase := (HH.out.Slt hb HH.out.hbS)
  have HP := Lib.hid hp
  have HST := Lib.hid hSt
  have HGS := Lib.hid hgs
  have hcap := hSt.cap
  have hmx := hSt.max
  unfold maxLen at hmx
  have hgl := hSt.lt (x := ⟨gs, os, none⟩) rfl (by omega)
  simp only at hgl
  clear hnl h hp hSt hgs
  have mn : min (nb : Int) ((nb : Int) + 207) = (nb : Int) := by omega
  have z1 : ¬ cs = nb := by omega
  have z2 : nb + 207 - nb = 207 := by omega
  have z3 : (nb : Int) ≤ (nb : Int) + 207 := by omega
  go_enter Try.func44, Try.ntmps44
  go_wp2_with fail
  have f1 : Fr [] w (w.alloc (.cells #[.int .i64 0, .slice none 0 0, .bool false, .bool false] 31)) := (Fr.refl _ _).alloc _
  have B1 : Hid ((w.alloc (.cells #[.int .i64 0, .slice none 0 0, .bool false, .bool false] 31)).heap[w.heap.size]? = some (.cells #[.int .i64 0, .slice none 0 0, .bool false, .bool false] 31 (0, 0))) := Go.heap_alloc_new w (.cells #[.int .i64 0, .slice none 0 0, .bool false, .bool false] 31)
  have zz1 : (w.alloc (.cells #[.int .i64 0, .slice none 0 0, .bool false, .bool false] 31)).heap.size = w.heap.size + 1 := by simp
  have Z1 := Lib.hid zz1
  clear zz1
  have H1 := Lib.hid (HH.out.keep0 f1)
  have S1 := Lib.hid (HST.out.keep0 f1)
  generalize w.alloc (.cells #[.int .i64 0, .slice none 0 0, .bool false, .bool false] 31) = w1 at f1 B1 Z1 H1 S1 ⊢
  have S1d : Hid (Sl w1.drew (some ⟨gs, os + nb, none⟩) 207 (cs - nb) (marH r o d)) := by
    have e := (S1.out.keep0 (Fr.refl _ _).drew).drop nb (by omega) (by omega)
    rw [List.drop_left' HP.out, z2] at e
    exact e
  have q1 := (saved_cell (H1.out.keep0 (Fr.refl _ _).drew) HNL.out).1
  have hml : (marH r o d).length = 207 := marH_length _ _ _ HH.out.rt
  have HML := Lib.hid hml
  clear hml
  go_region_law (first
    | (go_simp; go_at_call 36; refine (copied_n _ 207 _ (marH r o d) _ S1d.out (by omega)).mono ?_; rintro e w2 ⟨ac, cc, rfl, o2, f2⟩; obtain ⟨g, hac, hg1, hg2, hg3⟩ := Ow_at0 o2 (by rw [HML.out]; decide); rw [hac] at o2 ⊢; have O2 := Lib.hid o2; have q3 := (saved_cell (H1.out.keep0 ((Fr.refl _ _).drew.trans f2)) HNL.out).1; have q4 := (saved_cell (H1.out.keep0 ((Fr.refl _ _).drew.trans (f2.alloc (.cells #[.slice (some ⟨g, 0, none⟩) 207 cc] 22)))) HNL.out).1; have H2 := Lib.hid (H1.out.keep0 ((Fr.refl _ _).drew.trans f2)); have hsz2 : w1.heap.size ≤ w2.heap.size := f2.size; have HAC := Lib.hid hac; clear o2 hac)
    | (refine step_append_srcN _ rfl _ _ 48 48 rfl base 22 i0 (.slice none 0 0) 1 24 Try.underlying48 hi0 hz0 hz1 hz2 rfl a2 n c2 (ss.map slv) rfl (by have := (H2.out.keep0 ((Fr.refl _ _).alloc (.cells #[.slice (some ⟨g, 0, none⟩) 207 cc] 22))).rowS; rw [HNL.out] at this; exact this) _ 1 [slv (g, cc)] rfl (Src_one Try.underlying48 (slv (g, cc)) rfl 22) (by unfold maxLen; omega) (by omega) (by have := Z1.out; simp; omega) ?_; intro a7 c7 w7 ho hg ha; have q8 := grown_blk2 (H2.out.keep0 ((Fr.refl _ _).alloc (.cells #[.slice (some ⟨g, 0, none⟩) 207 cc] 22))) HNL.out hg))
  all_goals
    have P7 := HI.addSaved (H1.out.keep0 (Fr.refl _ _).drew) (wB := w2.alloc (.cells #[.slice (some ⟨g, 0, none⟩) 207 cc] 22)) (wC := w7) (g := g) (c := cc) (c2' := c7) (a2' := a7) (data := d) (f2.trans ((Fr.refl _ _).alloc _)) ((O2.out.sl_at HML.out).keep0 ((Fr.refl _ _).alloc _)) hg1 (by rw [HNL.out]; exact ho) (by rw [HNL.out]; exact hg) ha
    rw [HNL.out] at P7
    have HP7 := Lib.hid P7
    have hsub := save_sub (wB := w2.alloc (.cells #[.slice (some ⟨g, 0, none⟩) 207 cc] 22)) (N := w.heap.size + 1) ha HH.out.a2S (by have := Z1.out; simp; omega)
    have HSUB := Lib.hid hsub
    clear P7 ho hg q1 q3 q4 q8 hsub
    generalize w7.setCell ⟨hb, 2, none⟩ (.slice a7 (n + 1) c7) = w8 at HP7 ⊢
    have f18 : Fr S w1 w8 := ⟨HP7.out.2.os, HP7.out.2.tape, HP7.out.2.output, HP7.out.2.size, HP7.out.2.block⟩
    have B8 : Hid (w8.heap[w.heap.size]? = some (.cells #[.int .i64 0, .slice none 0 0, .bool false, .bool false] 31 (0, 0))) := f18.obj B1.out (fun hm => by have := HH.out.lt_of hm; omega)
    have S8 : Hid (Sl w8 (some ⟨gs, os, none⟩) nb cs p) := by
      have e := (S1.out.keep f18 (fun x hx _ => by simp only [Option.some.injEq] at hx; subst hx; exact HGS.out)).take nb (by omega)
      rw [List.take_left' HP.out] at e
      exact e
    have z4 : nb ≤ cs := by omega
    go_wp2_with fail
    refine (copied_n _ nb cs p _ S8.out (by omega)).mono ?_
    rintro e w6 ⟨a9, c9, rfl, o9, f69⟩
    have O9 := Lib.hid o9
    clear o9
    have B9 : Hid (w6.heap[w.heap.size]? = some (.cells #[.int .i64 0, .slice none 0 0, .bool false, .bool false] 31 (0, 0))) := f69.obj B8.out (by simp)
    go_wp2_with (refine wpList_store_bits rfl _ _ _ rfl (w.heap.size) rfl 31 #[.int .i64 0, .slice a9 nb c9, .bool true, .bool false] #[.int .i64 0, .slice none 0 0, .bool false, .bool false] rfl B9.out rfl (by intro v hv; simp at hv; rcases hv with rfl | rfl | rfl | rfl <;> rfl) sizeRT ?_; refine Hid.out ?_)
    show wpList _ _ _ _ _ _
    have G9 := Lib.hid (setRow_heap _ _ _ (#[.int .i64 0, .slice a9 nb c9, .bool true, .bool false] : Array Value) _ _ B9.out)
    have f9 : Fr [w.heap.size] w6 (w6.setRow (w.heap.size) #[.int .i64 0, .slice a9 nb c9, .bool true, .bool false]) := (Fr.refl _ _).setRow _ _ (.inr (by simp))
    generalize w6.setRow (w.heap.size) #[.int .i64 0, .slice a9 nb c9, .bool true, .bool false] = w9 at G9 f9 ⊢
    go_wp2_with fail
    refine bodyPost_ret (v := .agg #[.int .i64 0, .slice a9 nb c9, .bool true, .bool false]) (results_cell_row rfl _ _ (w.heap.size) _ _ _ _ rfl G9.out Try.underlying31 rfl sizeRT) rfl ?_
    have F9 : Fr S w w9 := Fr_trans_new (((f1.mono (by simp)).trans f18 : Fr S w w8).trans (f69.mono (by simp))) f9 (by simp)
    have hw8 : w.heap.size + 1 ≤ w8.heap.size := by have := f18.size; have := Z1.out; omega
    have K9 := HI_keepNew (HP7.out.1.keep0 f69) f9 (fun x hx => ⟨fun hm => by
      simp only [List.mem_cons, List.not_mem_nil, or_false] at hx
      subst hx
      rcases HSUB.out _ hm with h1 | h1
      · have := HH.out.lt_of h1
        omega
      · omega, fun j hj e => by
      simp only [List.mem_cons, List.not_mem_nil, or_false] at hx
      by_cases hjn : j < saved.length
      · rw [getD_append_lt _ _ _ _ (by rw [HH.out.sl]; exact hjn)] at e
        have := (HH.out.sv j hjn).1.lt (x := ⟨(ss.getD j (0, 0)).1, 0, none⟩) rfl (by decide)
        simp only at this
        omega
      · have ej : j = saved.length := by simp at hj; omega
        subst ej
        rw [show (ss ++ [(g, cc)]).getD saved.length (0, 0) = (g, cc) by rw [← HH.out.sl]; exact getD_append_eq ss (g, cc) (0, 0)] at e
        have h1 : w1.heap.size ≤ g := hg1
        have := Z1.out
        simp only at e
        omega⟩)
    have O9' : Ow w9 w8.heap.size 5 a9 c9 p := O9.out.keep f9 (fun x hx => by simp; omega)
    refine ⟨a9, c9, _, _, _, _, _, _, _, ?_, O9'.mono (by omega), K9, F9, fun x hx => (HSUB.out x hx).imp id (fun h => by omega), fun y hy hm => ?_⟩
    · rw [HP.out]
    · subst hy
      have h1 := O9'.block.2.2.1
      have h2 := (HP7.out.1.Slt _ hm).2
      omega

end Go.Proofs.Ytjgdbamlaajkmaa
