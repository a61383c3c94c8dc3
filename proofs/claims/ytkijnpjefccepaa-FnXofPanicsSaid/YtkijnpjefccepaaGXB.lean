/- Contracts and lemmas, merged: Xh, Xk, Xn. Their conditions stand in each. -/
import Derived.Test.YtkijnpjefccepaaGA
import Derived.Test.YtkijnpjefccepaaGB
import Derived.Test.YtkijnpjefccepaaGC
import Derived.Test.YtkijnpjefccepaaGG
import Derived.Test.YtkijnpjefccepaaGH
import Derived.Test.YtkijnpjefccepaaGX
import Derived.Test.YtkijnpjefccepaaGY
import Derived.Test.YtkijnpjefccepaaGXA
import Derived.Deep.RegionHeld3
import Derived.Deep.RegionLaw
section
namespace Go.Sha
open Go.RowKit
section
variable {P : Program} {w : World}
/-- a sponge is stored over the one that lies in a block -/
theorem wpList_store_dg {ops : Array Oper} {rest : List Oper} {o : Oper} {a : Act} {Q : Exit → Act → World → Prop} (hgd : o.guard = none) (ty : TypeId) (x y : Operand) (ho : o.op = .store ty x y)
    {b T : Nat} {ext : List Value} {d : Dg} (e : Dg) (hx : a.eval x = .pointer (some ⟨b, 0, none⟩)) (hy : a.eval y = .agg e.cells.toArray) (h : DgAt w b T ext d) (he : e.a.length = 200) (hi : (P.info? ty).map (·.size) = some 205)
    (hK : ∀ w', DgAt w' b T ext e → Fr [b] w w' → wpList P ops Q rest (a.put o.dst undef) w') : wpList P ops Q (o :: rest) a w := by
  refine wpList_plain hgd fun K hK' => ?_
  cases hj : P.info? ty with
  | none => rw [hj] at hi; cases hi
  | some i =>
    rw [hj] at hi
    simp only [Option.map_some, Option.some.injEq] at hi
    have hl := Dg.cells_length d h.1
    have hl2 := Dg.cells_length e he
    have hst := run_storeCells_at P b 0 T e.cells 0 _ w h.2 (by rw [List.size_toArray, List.length_append, hl, hl2]; omega) e.cells_one
    have e1 : (List.take (0 + 0) (d.cells ++ ext).toArray.toList ++ e.cells ++ List.drop (0 + 0 + e.cells.length) (d.cells ++ ext).toArray.toList).toArray = (e.cells ++ ext).toArray := by
      rw [hl2, show 0 + 0 + 205 = d.cells.length by rw [hl]]
      simp
    rw [e1] at hst
    unfold Oper.wp execOp
    simp only [ho, hx, hy, Instr.storeAt, Instr.sureAddr, storeVar, sizeOf, typeInfo, Value.cells, Sem.run_bind, Sem.run_pure, Result.andThen_ok, run_program, hj, hi, List.size_toArray, hl2, ne_eq, not_true_eq_false, if_false, hst]
    exact hK' _ _ (hK _ ⟨he, setRow_heap _ _ _ _ _ _ h.2⟩ ((Fr.refl _ _).setRow _ _ (.inr (by simp))))
theorem DgAt.setExt {b T : Nat} {u : Value} {d : Dg} (h : DgAt w b T [u] d) (v : Value) : DgAt (w.setCell ⟨b, 205, none⟩ v) b T [v] d := by
  refine ⟨h.1, ?_⟩
  rw [Go.Sha.heap_setCell_same h.2 v]
  congr 2
  apply Array.ext'
  simp only [Array.toList_setIfInBounds]
  have hl := Dg.cells_length d h.1
  rw [show (205 : Nat) = d.cells.length + 0 by rw [hl], List.set_append_right _ _ (by omega)]
  simp
end
theorem grown_fr {b : Nat} {w0 w w' : World} {a : Option Addr} {n c : Nat} (f : Fr [b] w0 w) (hg : w.grownBy w' (Value.slice a n c).ownBlock) (ho : ∀ x ∈ (Value.slice a n c).ownBlock.toList, w0.heap.size ≤ x) : Fr [b] w0 w' :=
  f.grown hg (fun k hk => .inl (ho k (by rw [hk]; simp)))
theorem DgAt.grown {b T : Nat} {ext : List Value} {d : Dg} {w w' : World} {a : Option Addr} {n c base : Nat} (h : DgAt w b T ext d) (hg : w.grownBy w' (Value.slice a n c).ownBlock) (ho : ∀ x ∈ (Value.slice a n c).ownBlock.toList, base ≤ x) (hb : b < base) : DgAt w' b T ext d :=
  ⟨h.1, by rw [hg.block b h.lt (fun e => by have := ho b (by rw [← e]; simp); omega)]; exact h.2⟩
end Go.Sha
namespace Go.Proofs.Ytkijnpjefccepaa
open Go.ChangeShapes Go.WideShapes Go.ChangeAt Go.RowKit Go.Sha

set_option maxRecDepth 100000 in
set_option maxHeartbeats 1600000 in
theorem newCShake168 (w : World) (b : Nat) (an ac : Option Addr) (nn cn nc cc : Nat) (N S : Bs) (h : DgAt w b 70 [.slice none 0 0] (newD 0 0 0)) (hN : Sl w an nn cn N) (hS : Sl w ac nc cc S) (hNb : ∀ x, an = some x → nn ≠ 0 → x.block ≠ b) (hSb : ∀ x, ac = some x → nc ≠ 0 → x.block ≠ b) (hnn : nn ≤ 140737488351232) (hnc : nc ≤ 140737488351232) :
    Calls Try.prog 88 #[.pointer (some ⟨b, 0, none⟩), .slice an nn cn, .slice ac nc cc, .int .i64 168, .int .i64 32, .int .u8 4] w fun e w' => ∃ a c, e = .returned (.pointer (some ⟨b, 0, none⟩)) ∧ Sl w' a (iniOf N S).length c (iniOf N S) ∧ (∀ x, a = some x → w.heap.size ≤ x.block ∧ x.off = 0) ∧ DgAt w' b 70 [.slice a (iniOf N S).length c] (absorb (newD 168 32 4) (bpad 168 (iniOf N S))) ∧ Fr [b] w w' := by
  obtain ⟨i0, hi, hz0, hz1, hz2⟩ := info_parts info5
  have hb : Try.prog.built 68 [(2, .int .i64 168), (4, .int .i64 32), (3, .int .u8 4)] = some (newD 168 32 4).cells.toArray := by kernel_rfl
  have HBB := Lib.hid hb
  have hbw := h.lt
  have HD := Lib.hid h
  have HNS := Lib.hid (And.intro hN hS)
  have HNB := Lib.hid (And.intro hNb hSb)
  have lN := Lib.hid hN.len
  have lS := Lib.hid hS.len
  obtain ⟨X, hX⟩ : ∃ X, X = 8 * nn := ⟨_, rfl⟩
  obtain ⟨Y, hY⟩ : ∃ Y, Y = 8 * nc := ⟨_, rfl⟩
  obtain ⟨mX, hmX⟩ : ∃ mX, mX = nb X + 1 := ⟨_, rfl⟩
  obtain ⟨mY, hmY⟩ : ∃ mY, mY = nb Y + 1 := ⟨_, rfl⟩
  have bX : mX ≤ 9 := by have := nb_le X; omega
  have bY : mY ≤ 9 := by have := nb_le Y; omega
  have HX8 := Lib.hid (And.intro hX hY)
  have bX8 : X ≤ 8 * 140737488351232 ∧ Y ≤ 8 * 140737488351232 := by omega
  have HmX := Lib.hid hmX
  have HmY := Lib.hid hmY
  have s1 : IntKind.i64.wrap (9 + (nn : Int)) = 9 + (nn : Int) := IntWalk.i64_in _ (by omega)
  have s2 : IntKind.i64.wrap (9 + (nn : Int) + 9) = 9 + (nn : Int) + 9 := IntWalk.i64_in _ (by omega)
  have s3 : IntKind.i64.wrap (9 + (nn : Int) + 9 + (nc : Int)) = 9 + (nn : Int) + 9 + (nc : Int) := IntWalk.i64_in _ (by omega)
  have hmk := make_cap2 0 (9 + nn + 9 + nc) 0 (9 + (nn : Int) + 9 + (nc : Int)) rfl (by omega) (by omega) (by omega)
  clear h hN hS hNb hSb hb hX hY hmX hmY
  go_enter Try.func88, Try.ntmps88
  go_wp2_with (first | (refine wpList_build3 rfl 68 2 _ (.int .i64 168) 4 _ (.int .i64 32) 3 _ (.int .u8 4) rfl rfl rfl rfl (newD 168 32 4).cells.toArray HBB.out ?_; refine Hid.out ?_))
  show wpList _ _ _ _ _ _
  obtain ⟨D, hD⟩ : ∃ D, D = newD 168 32 4 := ⟨_, rfl⟩
  have hDa : Hid (D.a.length = 200) := by show _ = _; rw [hD]; exact List.length_replicate
  rw [← hD]
  have HDD := Lib.hid hD
  clear hD
  go_wp2_with (refine wpList_store_dg rfl 68 _ _ rfl D rfl rfl HD.out hDa.out sizeDg ?_)
  intro w0 D0 f0
  have fA : Fr [] w0 (w0.alloc (.cells (madeCells #[.int .u8 0] (9 + nn + 9 + nc)) 5)) := (Fr.refl _ _).alloc _
  have DA := D0.keep fA (by simp)
  have qA := DA.cext rfl
  have zA := DA.fz 205
  have hw0 := f0.size
  go_wp2_with fail
  clear hmk s1 s2 s3
  have HDs := DA.setExt (.slice (some ⟨w0.heap.size, 0, none⟩) 0 (9 + nn + 9 + nc))
  have HFs : Fr [b] w ((w0.alloc (.cells (madeCells #[.int .u8 0] (9 + nn + 9 + nc)) 5)).setCell ⟨b, 205, none⟩ (.slice (some ⟨w0.heap.size, 0, none⟩) 0 (9 + nn + 9 + nc))) := (f0.trans (fA.mono (by simp))).setCell _ _ (.inr (by simp))
  have HOs : Ow ((w0.alloc (.cells (madeCells #[.int .u8 0] (9 + nn + 9 + nc)) 5)).setCell ⟨b, 205, none⟩ (.slice (some ⟨w0.heap.size, 0, none⟩) 0 (9 + nn + 9 + nc))) w.heap.size 5 (some ⟨w0.heap.size, 0, none⟩) (9 + nn + 9 + nc) [] := ((Ow.made0 w0 (9 + nn + 9 + nc) 5 (by unfold maxLen; omega)).mono hw0).keep ((Fr.refl [b] _).setCell ⟨b, 205, none⟩ _ (.inr (by simp))) (fun x hx => by simp; omega)
  generalize hc1 : 9 + nn + 9 + nc = c1 at HDs HFs HOs ⊢
  generalize (w0.alloc (.cells (madeCells #[.int .u8 0] (c1)) 5)).setCell ⟨b, 205, none⟩ (.slice (some ⟨w0.heap.size, 0, none⟩) 0 c1) = w1 at HDs HFs HOs ⊢
  generalize (some ⟨w0.heap.size, 0, none⟩ : Option Addr) = a1 at HDs HOs ⊢
  obtain ⟨n1, hn1⟩ : ∃ n1 : Nat, n1 = 0 := ⟨_, rfl⟩
  obtain ⟨L1, hL1⟩ : ∃ L1 : Bs, L1 = [] := ⟨_, rfl⟩
  rw [← hn1] at HDs
  rw [← hL1] at HOs
  have HN : Hid (L1.length = n1) := by show _ = _; rw [hL1, hn1]; rfl
  have HL1 := Lib.hid hL1
  have HN1 := Lib.hid hn1
  have hn1b : n1 ≤ 1 := by omega
  clear hn1
  have HD := Lib.hid HDs
  have HF := Lib.hid HFs
  have HO := Lib.hid HOs
  clear HDs HFs HOs DA qA zA fA hL1 D0
  have e8 : ((nn : Nat) : Int) * 8 = (X : Int) := by have := HX8.out; omega
  have u8 : IntKind.u64.wrap ((nn : Nat) : Int) = ((nn : Nat) : Int) := by simp [IntKind.wrap, IntKind.bits, IntKind.signed]; omega
  have u9 : IntKind.u64.wrap (X : Int) = (X : Int) := by simp [IntKind.wrap, IntKind.bits, IntKind.signed]; omega
  have q1 : w1.drew.cell? ⟨b, 205, none⟩ = some (.slice a1 n1 c1) := HD.out.cext rfl
  go_region_law (first
    | (go_simp; go_at_call 94; refine (leftEncode_any X (by omega) _).mono ?_; rintro e v2 ⟨g2, o2, rfl, hg2, sL, fL⟩; rw [← HmX.out] at sL ⊢; have SLe := Lib.hid sL; clear sL; have q1b := (HD.out.keep ((Fr.refl [] w1).drew.trans fL) (by simp)).cext rfl)
    | (refine step_append_srcC _ rfl _ _ 22 22 rfl w.heap.size 5 i0 (.int .u8 0) 1 1 Try.underlying22 hi hz0 hz1 hz2 rfl a1 n1 c1 (L1.map bv) rfl (Ow.row' (HO.out.keep0 ((Fr.refl _ _).drew.trans fL)) HN.out) _ mX ((lenc X).map bv) rfl (SLe.out.src Try.underlying22) (by unfold maxLen; omega) (.inl (by have := HN1.out; omega)) (Nat.le_trans HF.out.size fL.size) ?_; intro a2 c2 w2a ho hg hcc; have q2 := ((HD.out.keep ((Fr.refl [] w1).drew.trans fL) (by simp)).grown hg (HO.out.own_ge (n := n1)) hbw).cext rfl; have z2 := ((HD.out.keep ((Fr.refl [] w1).drew.trans fL) (by simp)).grown hg (HO.out.own_ge (n := n1)) hbw).fz 205))
  all_goals
    have HC2 := Lib.hid hcc
    clear q1 e8 u8 u9 hcc
    have HF1 : Fr [b] w v2 := HF.out.trans ((Fr.refl [b] _).drew.trans (fL.mono (by simp)))
    have HD1 := (HD.out.keep ((Fr.refl [] w1).drew.trans fL) (by simp) : DgAt v2 b 70 _ _)
    have HLE : (lenc X).length = mX := by rw [lenc_length, HmX.out]
    have hge := HO.out.own_ge (n := n1)
    have HF' : Fr [b] w w2a := grown_fr HF1 hg hge
    have HO' : Ow w2a w.heap.size 5 a2 c2 (L1 ++ lenc X) := Ow.of ho (by rw [List.length_append, HN.out, HLE]) (by rw [List.map_append])
    have HN' : (L1 ++ lenc X).length = n1 + mX := by rw [List.length_append, HN.out, HLE]
    have HD' := HD1.grown hg hge hbw
    have HD2 := HD'.setExt (.slice a2 (n1 + mX) c2)
    have HF2 : Fr [b] w (w2a.setCell ⟨b, 205, none⟩ (.slice a2 (n1 + mX) c2)) := HF'.setCell _ _ (.inr (by simp))
    have HO2 := HO'.keep ((Fr.refl [b] w2a).setCell ⟨b, 205, none⟩ (.slice a2 (n1 + mX) c2) (.inr (by simp))) (fun x hx => by simp; omega)
    clear ho hg HO HD HF HD' HO' HF' hge q2 z2 HN
    obtain ⟨L2, hL2⟩ : ∃ L2, L2 = L1 ++ lenc X := ⟨_, rfl⟩
    rw [← hL2] at HO2 HN'
    generalize hn2 : n1 + mX = n2 at HN' HD2 HF2 HO2 ⊢
    generalize w2a.setCell ⟨b, 205, none⟩ (.slice a2 n2 c2) = w2 at HD2 HF2 HO2 ⊢
    have HL2 := Lib.hid hL2
    have HO := Lib.hid HO2
    have HN := Lib.hid HN'
    have HF := Lib.hid HF2
    have HD := Lib.hid HD2
    clear HO2 HN' HF2 HD2 hL2
    have S1 : Hid (Sl w2 an nn cn N) := HNS.out.1.keep HF.out (fun x hx hn => by simp; exact HNB.out.1 x hx hn)
    have q2 := HD.out.cext rfl
    go_wp2_with (at_builtin; refine wpList_append_srcC _ rfl _ _ 22 22 rfl w.heap.size 5 i0 (.int .u8 0) 1 1 Try.underlying22 hi hz0 hz1 hz2 rfl a2 n2 c2 (L2.map bv) rfl (Ow.row' HO.out HN.out) _ nn (N.map bv) rfl (S1.out.src Try.underlying22) (by unfold maxLen; omega) (.inl (by have := HN1.out; have := HC2.out; omega)) HF.out.size ?_)
    intro a3 c3 w3a ho hg hcc
    have HC3 := Lib.hid hcc
    clear hcc
    have hge := HO.out.own_ge (n := n2)
    have HF' : Fr [b] w w3a := grown_fr HF.out hg hge
    have HO' : Ow w3a w.heap.size 5 a3 c3 (L2 ++ N) := Ow.of ho (by rw [List.length_append, HN.out, lN.out]) (by rw [List.map_append])
    have HN' : (L2 ++ N).length = n2 + nn := by rw [List.length_append, HN.out, lN.out]
    have HD' := HD.out.grown hg hge hbw
    have q3 := HD'.cext rfl
    have z3 := HD'.fz 205
    go_wp2_with fail
    clear q2 S1
    have HD2 := HD'.setExt (.slice a3 (n2 + nn) c3)
    have HF2 : Fr [b] w (w3a.setCell ⟨b, 205, none⟩ (.slice a3 (n2 + nn) c3)) := HF'.setCell _ _ (.inr (by simp))
    have HO2 := HO'.keep ((Fr.refl [b] w3a).setCell ⟨b, 205, none⟩ (.slice a3 (n2 + nn) c3) (.inr (by simp))) (fun x hx => by simp; omega)
    clear ho hg HO HD HF HD' HO' HF' hge q3 z3 HN
    obtain ⟨L3, hL3⟩ : ∃ L3, L3 = L2 ++ N := ⟨_, rfl⟩
    rw [← hL3] at HO2 HN'
    generalize hn3 : n2 + nn = n3 at HN' HD2 HF2 HO2 ⊢
    generalize w3a.setCell ⟨b, 205, none⟩ (.slice a3 n3 c3) = w3 at HD2 HF2 HO2 ⊢
    have HL3 := Lib.hid hL3
    have HO := Lib.hid HO2
    have HN := Lib.hid HN'
    have HF := Lib.hid HF2
    have HD := Lib.hid HD2
    clear HO2 HN' HF2 HD2 hL3
    have e8 : ((nc : Nat) : Int) * 8 = (Y : Int) := by have := HX8.out; omega
    have u8 : IntKind.u64.wrap ((nc : Nat) : Int) = ((nc : Nat) : Int) := by simp [IntKind.wrap, IntKind.bits, IntKind.signed]; omega
    have u9 : IntKind.u64.wrap (Y : Int) = (Y : Int) := by simp [IntKind.wrap, IntKind.bits, IntKind.signed]; omega
    have q3 : w3.drew.cell? ⟨b, 205, none⟩ = some (.slice a3 n3 c3) := HD.out.cext rfl
    go_region_law (first
      | (go_simp; go_at_call 94; refine (leftEncode_any Y (by omega) _).mono ?_; rintro e v4 ⟨g4, o4, rfl, hg4, sL, fL⟩; rw [← HmY.out] at sL ⊢; have SLe := Lib.hid sL; clear sL; have q3b := (HD.out.keep ((Fr.refl [] w3).drew.trans fL) (by simp)).cext rfl)
      | (refine step_append_srcC _ rfl _ _ 22 22 rfl w.heap.size 5 i0 (.int .u8 0) 1 1 Try.underlying22 hi hz0 hz1 hz2 rfl a3 n3 c3 (L3.map bv) rfl (Ow.row' (HO.out.keep0 ((Fr.refl _ _).drew.trans fL)) HN.out) _ mY ((lenc Y).map bv) rfl (SLe.out.src Try.underlying22) (by unfold maxLen; omega) (.inl (by have := HN1.out; have := HC2.out; have := HC3.out; omega)) (Nat.le_trans HF.out.size fL.size) ?_; intro a4 c4 w4a ho hg hcc; have q4 := ((HD.out.keep ((Fr.refl [] w3).drew.trans fL) (by simp)).grown hg (HO.out.own_ge (n := n3)) hbw).cext rfl; have z4 := ((HD.out.keep ((Fr.refl [] w3).drew.trans fL) (by simp)).grown hg (HO.out.own_ge (n := n3)) hbw).fz 205))
    all_goals
      have HC4 := Lib.hid hcc
      clear q3 e8 u8 u9 hcc
      have HF1 : Fr [b] w v4 := HF.out.trans ((Fr.refl [b] _).drew.trans (fL.mono (by simp)))
      have HD1 := (HD.out.keep ((Fr.refl [] w3).drew.trans fL) (by simp) : DgAt v4 b 70 _ _)
      have HLE : (lenc Y).length = mY := by rw [lenc_length, HmY.out]
      have hge := HO.out.own_ge (n := n3)
      have HF' : Fr [b] w w4a := grown_fr HF1 hg hge
      have HO' : Ow w4a w.heap.size 5 a4 c4 (L3 ++ lenc Y) := Ow.of ho (by rw [List.length_append, HN.out, HLE]) (by rw [List.map_append])
      have HN' : (L3 ++ lenc Y).length = n3 + mY := by rw [List.length_append, HN.out, HLE]
      have HD' := HD1.grown hg hge hbw
      have HD2 := HD'.setExt (.slice a4 (n3 + mY) c4)
      have HF2 : Fr [b] w (w4a.setCell ⟨b, 205, none⟩ (.slice a4 (n3 + mY) c4)) := HF'.setCell _ _ (.inr (by simp))
      have HO2 := HO'.keep ((Fr.refl [b] w4a).setCell ⟨b, 205, none⟩ (.slice a4 (n3 + mY) c4) (.inr (by simp))) (fun x hx => by simp; omega)
      clear ho hg HO HD HF HD' HO' HF' hge q4 z4 HN
      obtain ⟨L4, hL4⟩ : ∃ L4, L4 = L3 ++ lenc Y := ⟨_, rfl⟩
      rw [← hL4] at HO2 HN'
      generalize hn4 : n3 + mY = n4 at HN' HD2 HF2 HO2 ⊢
      generalize w4a.setCell ⟨b, 205, none⟩ (.slice a4 n4 c4) = w4 at HD2 HF2 HO2 ⊢
      have HL4 := Lib.hid hL4
      have HO := Lib.hid HO2
      have HN := Lib.hid HN'
      have HF := Lib.hid HF2
      have HD := Lib.hid HD2
      clear HO2 HN' HF2 HD2 hL4
      have S1 : Hid (Sl w4 ac nc cc S) := HNS.out.2.keep HF.out (fun x hx hn => by simp; exact HNB.out.2 x hx hn)
      have q4 := HD.out.cext rfl
      go_wp2_with (at_builtin; refine wpList_append_srcC _ rfl _ _ 22 22 rfl w.heap.size 5 i0 (.int .u8 0) 1 1 Try.underlying22 hi hz0 hz1 hz2 rfl a4 n4 c4 (L4.map bv) rfl (Ow.row' HO.out HN.out) _ nc (S.map bv) rfl (S1.out.src Try.underlying22) (by unfold maxLen; omega) (.inl (by have := HN1.out; have := HC2.out; have := HC3.out; have := HC4.out; omega)) HF.out.size ?_)
      intro a5 c5 w5a ho hg hcc
      have HC5 := Lib.hid hcc
      clear hcc
      have hge := HO.out.own_ge (n := n4)
      have HF' : Fr [b] w w5a := grown_fr HF.out hg hge
      have HO' : Ow w5a w.heap.size 5 a5 c5 (L4 ++ S) := Ow.of ho (by rw [List.length_append, HN.out, lS.out]) (by rw [List.map_append])
      have HN' : (L4 ++ S).length = n4 + nc := by rw [List.length_append, HN.out, lS.out]
      have HD' := HD.out.grown hg hge hbw
      have q5 := HD'.cext rfl
      have z5 := HD'.fz 205
      go_wp2_with fail
      clear q4 S1
      have HD2 := HD'.setExt (.slice a5 (n4 + nc) c5)
      have HF2 : Fr [b] w (w5a.setCell ⟨b, 205, none⟩ (.slice a5 (n4 + nc) c5)) := HF'.setCell _ _ (.inr (by simp))
      have HO2 := HO'.keep ((Fr.refl [b] w5a).setCell ⟨b, 205, none⟩ (.slice a5 (n4 + nc) c5) (.inr (by simp))) (fun x hx => by simp; omega)
      clear ho hg HO HD HF HD' HO' HF' hge q5 z5 HN
      obtain ⟨L5, hL5⟩ : ∃ L5, L5 = L4 ++ S := ⟨_, rfl⟩
      rw [← hL5] at HO2 HN'
      generalize hn5 : n4 + nc = n5 at HN' HD2 HF2 HO2 ⊢
      generalize w5a.setCell ⟨b, 205, none⟩ (.slice a5 n5 c5) = w5 at HD2 HF2 HO2 ⊢
      have HL5 := Lib.hid hL5
      have HO := Lib.hid HO2
      have HN := Lib.hid HN'
      have HF := Lib.hid HF2
      have HD := Lib.hid HD2
      clear HO2 HN' HF2 HD2 hL5
      have eL : L5 = iniOf N S := by
        rw [HL5.out, HL4.out, HL3.out, HL2.out, HL1.out, iniOf, encS, encS, lN.out, lS.out, HX8.out.1, HX8.out.2]
        simp
      have HEL := Lib.hid eL
      have hok : D.Ok ∧ D.st = 0 ∧ D.rate = 168 := by rw [HDD.out]; exact ⟨newD_ok _ _ _ (by decide) (by decide), rfl, rfl⟩
      have HOK := Lib.hid hok
      have d5 : DgAt w5.drew b 70 [.slice a5 n5 c5] D := HD.out
      have q5 := d5.cext rfl
      have q6 := d5.crate
      rw [hok.2.2] at q6
      have S5 : Hid (Sl w5.drew a5 n5 c5 L5) := (HO.out.sl_at HN.out).keep0 (Fr.refl _ _).drew
      have hne5 : ∀ x, a5 = some x → n5 ≠ 0 → x.block ≠ b := fun x hx _ => by
        subst hx
        have := HO.out.block.2.2.1
        omega
      have HNE := Lib.hid hne5
      have HD5 := Lib.hid d5
      clear eL hok d5 hne5
      have hn5 : n5 ≤ 281474976710656 := by omega
      go_region_held3 (fun w' => w'.cell? ⟨b, 205, none⟩ = some (.slice a5 n5 c5) ∧ w'.cell? ⟨b, 201, none⟩ = some (.int .i64 168) ∧ True)
        (first | (exact ⟨q5, q6, trivial⟩) | (exact ⟨q7, q8, trivial⟩) | (go_keep))
        (first | (go_at_call 77; refine (bytepadWrite_any w5.drew b 70 _ D a5 n5 c5 L5 168 HD5.out HOK.out.1 HOK.out.2.1 S5.out HNE.out (by decide) (by decide) hn5).mono ?_; rintro e w6 ⟨rfl, D6, f6⟩; have q7 := D6.cext rfl; have q8 : w6.cell? ⟨b, 201, none⟩ = some (.int .i64 168) := by rw [D6.crate, (absorb_ok HOK.out.1 _).2.1, HOK.out.2.2]; rfl))
      have HD6 := Lib.hid D6
      clear q5 q6 q7 q8 D6
      go_wp2_with fail
      go_ret
      have S6 := S5.out.keep f6 (fun x hx hn => by simp; exact HNE.out x hx hn)
      have D6 := HD6.out
      have hl : n5 = (iniOf N S).length := by rw [← HEL.out, HN.out]
      rw [HEL.out, HDD.out] at D6
      rw [HEL.out] at S6
      rw [hl] at S6 D6
      exact ⟨a5, c5, rfl, S6, fun x hx => by subst hx; exact ⟨HO.out.block.2.2.1, HO.out.off0⟩, D6, HF.out.trans ((Fr.refl [b] _).drew.trans f6)⟩

set_option maxRecDepth 100000 in
set_option maxHeartbeats 1600000 in
theorem newCShake136 (w : World) (b : Nat) (an ac : Option Addr) (nn cn nc cc : Nat) (N S : Bs) (h : DgAt w b 70 [.slice none 0 0] (newD 0 0 0)) (hN : Sl w an nn cn N) (hS : Sl w ac nc cc S) (hNb : ∀ x, an = some x → nn ≠ 0 → x.block ≠ b) (hSb : ∀ x, ac = some x → nc ≠ 0 → x.block ≠ b) (hnn : nn ≤ 140737488351232) (hnc : nc ≤ 140737488351232) :
    Calls Try.prog 88 #[.pointer (some ⟨b, 0, none⟩), .slice an nn cn, .slice ac nc cc, .int .i64 136, .int .i64 64, .int .u8 4] w fun e w' => ∃ a c, e = .returned (.pointer (some ⟨b, 0, none⟩)) ∧ Sl w' a (iniOf N S).length c (iniOf N S) ∧ (∀ x, a = some x → w.heap.size ≤ x.block ∧ x.off = 0) ∧ DgAt w' b 70 [.slice a (iniOf N S).length c] (absorb (newD 136 64 4) (bpad 136 (iniOf N S))) ∧ Fr [b] w w' := by
  obtain ⟨i0, hi, hz0, hz1, hz2⟩ := info_parts info5
  have hb : Try.prog.built 68 [(2, .int .i64 136), (4, .int .i64 64), (3, .int .u8 4)] = some (newD 136 64 4).cells.toArray := by kernel_rfl
  have HBB := Lib.hid hb
  have hbw := h.lt
  have HD := Lib.hid h
  have HNS := Lib.hid (And.intro hN hS)
  have HNB := Lib.hid (And.intro hNb hSb)
  have lN := Lib.hid hN.len
  have lS := Lib.hid hS.len
  obtain ⟨X, hX⟩ : ∃ X, X = 8 * nn := ⟨_, rfl⟩
  obtain ⟨Y, hY⟩ : ∃ Y, Y = 8 * nc := ⟨_, rfl⟩
  obtain ⟨mX, hmX⟩ : ∃ mX, mX = nb X + 1 := ⟨_, rfl⟩
  obtain ⟨mY, hmY⟩ : ∃ mY, mY = nb Y + 1 := ⟨_, rfl⟩
  have bX : mX ≤ 9 := by have := nb_le X; omega
  have bY : mY ≤ 9 := by have := nb_le Y; omega
  have HX8 := Lib.hid (And.intro hX hY)
  have bX8 : X ≤ 8 * 140737488351232 ∧ Y ≤ 8 * 140737488351232 := by omega
  have HmX := Lib.hid hmX
  have HmY := Lib.hid hmY
  have s1 : IntKind.i64.wrap (9 + (nn : Int)) = 9 + (nn : Int) := IntWalk.i64_in _ (by omega)
  have s2 : IntKind.i64.wrap (9 + (nn : Int) + 9) = 9 + (nn : Int) + 9 := IntWalk.i64_in _ (by omega)
  have s3 : IntKind.i64.wrap (9 + (nn : Int) + 9 + (nc : Int)) = 9 + (nn : Int) + 9 + (nc : Int) := IntWalk.i64_in _ (by omega)
  have hmk := make_cap2 0 (9 + nn + 9 + nc) 0 (9 + (nn : Int) + 9 + (nc : Int)) rfl (by omega) (by omega) (by omega)
  clear h hN hS hNb hSb hb hX hY hmX hmY
  go_enter Try.func88, Try.ntmps88
  go_wp2_with (first | (refine wpList_build3 rfl 68 2 _ (.int .i64 136) 4 _ (.int .i64 64) 3 _ (.int .u8 4) rfl rfl rfl rfl (newD 136 64 4).cells.toArray HBB.out ?_; refine Hid.out ?_))
  show wpList _ _ _ _ _ _
  obtain ⟨D, hD⟩ : ∃ D, D = newD 136 64 4 := ⟨_, rfl⟩
  have hDa : Hid (D.a.length = 200) := by show _ = _; rw [hD]; exact List.length_replicate
  rw [← hD]
  have HDD := Lib.hid hD
  clear hD
  go_wp2_with (refine wpList_store_dg rfl 68 _ _ rfl D rfl rfl HD.out hDa.out sizeDg ?_)
  intro w0 D0 f0
  have fA : Fr [] w0 (w0.alloc (.cells (madeCells #[.int .u8 0] (9 + nn + 9 + nc)) 5)) := (Fr.refl _ _).alloc _
  have DA := D0.keep fA (by simp)
  have qA := DA.cext rfl
  have zA := DA.fz 205
  have hw0 := f0.size
  go_wp2_with fail
  clear hmk s1 s2 s3
  have HDs := DA.setExt (.slice (some ⟨w0.heap.size, 0, none⟩) 0 (9 + nn + 9 + nc))
  have HFs : Fr [b] w ((w0.alloc (.cells (madeCells #[.int .u8 0] (9 + nn + 9 + nc)) 5)).setCell ⟨b, 205, none⟩ (.slice (some ⟨w0.heap.size, 0, none⟩) 0 (9 + nn + 9 + nc))) := (f0.trans (fA.mono (by simp))).setCell _ _ (.inr (by simp))
  have HOs : Ow ((w0.alloc (.cells (madeCells #[.int .u8 0] (9 + nn + 9 + nc)) 5)).setCell ⟨b, 205, none⟩ (.slice (some ⟨w0.heap.size, 0, none⟩) 0 (9 + nn + 9 + nc))) w.heap.size 5 (some ⟨w0.heap.size, 0, none⟩) (9 + nn + 9 + nc) [] := ((Ow.made0 w0 (9 + nn + 9 + nc) 5 (by unfold maxLen; omega)).mono hw0).keep ((Fr.refl [b] _).setCell ⟨b, 205, none⟩ _ (.inr (by simp))) (fun x hx => by simp; omega)
  generalize hc1 : 9 + nn + 9 + nc = c1 at HDs HFs HOs ⊢
  generalize (w0.alloc (.cells (madeCells #[.int .u8 0] (c1)) 5)).setCell ⟨b, 205, none⟩ (.slice (some ⟨w0.heap.size, 0, none⟩) 0 c1) = w1 at HDs HFs HOs ⊢
  generalize (some ⟨w0.heap.size, 0, none⟩ : Option Addr) = a1 at HDs HOs ⊢
  obtain ⟨n1, hn1⟩ : ∃ n1 : Nat, n1 = 0 := ⟨_, rfl⟩
  obtain ⟨L1, hL1⟩ : ∃ L1 : Bs, L1 = [] := ⟨_, rfl⟩
  rw [← hn1] at HDs
  rw [← hL1] at HOs
  have HN : Hid (L1.length = n1) := by show _ = _; rw [hL1, hn1]; rfl
  have HL1 := Lib.hid hL1
  have HN1 := Lib.hid hn1
  have hn1b : n1 ≤ 1 := by omega
  clear hn1
  have HD := Lib.hid HDs
  have HF := Lib.hid HFs
  have HO := Lib.hid HOs
  clear HDs HFs HOs DA qA zA fA hL1 D0
  have e8 : ((nn : Nat) : Int) * 8 = (X : Int) := by have := HX8.out; omega
  have u8 : IntKind.u64.wrap ((nn : Nat) : Int) = ((nn : Nat) : Int) := by simp [IntKind.wrap, IntKind.bits, IntKind.signed]; omega
  have u9 : IntKind.u64.wrap (X : Int) = (X : Int) := by simp [IntKind.wrap, IntKind.bits, IntKind.signed]; omega
  have q1 : w1.drew.cell? ⟨b, 205, none⟩ = some (.slice a1 n1 c1) := HD.out.cext rfl
  go_region_law (first
    | (go_simp; go_at_call 94; refine (leftEncode_any X (by omega) _).mono ?_; rintro e v2 ⟨g2, o2, rfl, hg2, sL, fL⟩; rw [← HmX.out] at sL ⊢; have SLe := Lib.hid sL; clear sL; have q1b := (HD.out.keep ((Fr.refl [] w1).drew.trans fL) (by simp)).cext rfl)
    | (refine step_append_srcC _ rfl _ _ 22 22 rfl w.heap.size 5 i0 (.int .u8 0) 1 1 Try.underlying22 hi hz0 hz1 hz2 rfl a1 n1 c1 (L1.map bv) rfl (Ow.row' (HO.out.keep0 ((Fr.refl _ _).drew.trans fL)) HN.out) _ mX ((lenc X).map bv) rfl (SLe.out.src Try.underlying22) (by unfold maxLen; omega) (.inl (by have := HN1.out; omega)) (Nat.le_trans HF.out.size fL.size) ?_; intro a2 c2 w2a ho hg hcc; have q2 := ((HD.out.keep ((Fr.refl [] w1).drew.trans fL) (by simp)).grown hg (HO.out.own_ge (n := n1)) hbw).cext rfl; have z2 := ((HD.out.keep ((Fr.refl [] w1).drew.trans fL) (by simp)).grown hg (HO.out.own_ge (n := n1)) hbw).fz 205))
  all_goals
    have HC2 := Lib.hid hcc
    clear q1 e8 u8 u9 hcc
    have HF1 : Fr [b] w v2 := HF.out.trans ((Fr.refl [b] _).drew.trans (fL.mono (by simp)))
    have HD1 := (HD.out.keep ((Fr.refl [] w1).drew.trans fL) (by simp) : DgAt v2 b 70 _ _)
    have HLE : (lenc X).length = mX := by rw [lenc_length, HmX.out]
    have hge := HO.out.own_ge (n := n1)
    have HF' : Fr [b] w w2a := grown_fr HF1 hg hge
    have HO' : Ow w2a w.heap.size 5 a2 c2 (L1 ++ lenc X) := Ow.of ho (by rw [List.length_append, HN.out, HLE]) (by rw [List.map_append])
    have HN' : (L1 ++ lenc X).length = n1 + mX := by rw [List.length_append, HN.out, HLE]
    have HD' := HD1.grown hg hge hbw
    have HD2 := HD'.setExt (.slice a2 (n1 + mX) c2)
    have HF2 : Fr [b] w (w2a.setCell ⟨b, 205, none⟩ (.slice a2 (n1 + mX) c2)) := HF'.setCell _ _ (.inr (by simp))
    have HO2 := HO'.keep ((Fr.refl [b] w2a).setCell ⟨b, 205, none⟩ (.slice a2 (n1 + mX) c2) (.inr (by simp))) (fun x hx => by simp; omega)
    clear ho hg HO HD HF HD' HO' HF' hge q2 z2 HN
    obtain ⟨L2, hL2⟩ : ∃ L2, L2 = L1 ++ lenc X := ⟨_, rfl⟩
    rw [← hL2] at HO2 HN'
    generalize hn2 : n1 + mX = n2 at HN' HD2 HF2 HO2 ⊢
    generalize w2a.setCell ⟨b, 205, none⟩ (.slice a2 n2 c2) = w2 at HD2 HF2 HO2 ⊢
    have HL2 := Lib.hid hL2
    have HO := Lib.hid HO2
    have HN := Lib.hid HN'
    have HF := Lib.hid HF2
    have HD := Lib.hid HD2
    clear HO2 HN' HF2 HD2 hL2
    have S1 : Hid (Sl w2 an nn cn N) := HNS.out.1.keep HF.out (fun x hx hn => by simp; exact HNB.out.1 x hx hn)
    have q2 := HD.out.cext rfl
    go_wp2_with (at_builtin; refine wpList_append_srcC _ rfl _ _ 22 22 rfl w.heap.size 5 i0 (.int .u8 0) 1 1 Try.underlying22 hi hz0 hz1 hz2 rfl a2 n2 c2 (L2.map bv) rfl (Ow.row' HO.out HN.out) _ nn (N.map bv) rfl (S1.out.src Try.underlying22) (by unfold maxLen; omega) (.inl (by have := HN1.out; have := HC2.out; omega)) HF.out.size ?_)
    intro a3 c3 w3a ho hg hcc
    have HC3 := Lib.hid hcc
    clear hcc
    have hge := HO.out.own_ge (n := n2)
    have HF' : Fr [b] w w3a := grown_fr HF.out hg hge
    have HO' : Ow w3a w.heap.size 5 a3 c3 (L2 ++ N) := Ow.of ho (by rw [List.length_append, HN.out, lN.out]) (by rw [List.map_append])
    have HN' : (L2 ++ N).length = n2 + nn := by rw [List.length_append, HN.out, lN.out]
    have HD' := HD.out.grown hg hge hbw
    have q3 := HD'.cext rfl
    have z3 := HD'.fz 205
    go_wp2_with fail
    clear q2 S1
    have HD2 := HD'.setExt (.slice a3 (n2 + nn) c3)
    have HF2 : Fr [b] w (w3a.setCell ⟨b, 205, none⟩ (.slice a3 (n2 + nn) c3)) := HF'.setCell _ _ (.inr (by simp))
    have HO2 := HO'.keep ((Fr.refl [b] w3a).setCell ⟨b, 205, none⟩ (.slice a3 (n2 + nn) c3) (.inr (by simp))) (fun x hx => by simp; omega)
    clear ho hg HO HD HF HD' HO' HF' hge q3 z3 HN
    obtain ⟨L3, hL3⟩ : ∃ L3, L3 = L2 ++ N := ⟨_, rfl⟩
    rw [← hL3] at HO2 HN'
    generalize hn3 : n2 + nn = n3 at HN' HD2 HF2 HO2 ⊢
    generalize w3a.setCell ⟨b, 205, none⟩ (.slice a3 n3 c3) = w3 at HD2 HF2 HO2 ⊢
    have HL3 := Lib.hid hL3
    have HO := Lib.hid HO2
    have HN := Lib.hid HN'
    have HF := Lib.hid HF2
    have HD := Lib.hid HD2
    clear HO2 HN' HF2 HD2 hL3
    have e8 : ((nc : Nat) : Int) * 8 = (Y : Int) := by have := HX8.out; omega
    have u8 : IntKind.u64.wrap ((nc : Nat) : Int) = ((nc : Nat) : Int) := by simp [IntKind.wrap, IntKind.bits, IntKind.signed]; omega
    have u9 : IntKind.u64.wrap (Y : Int) = (Y : Int) := by simp [IntKind.wrap, IntKind.bits, IntKind.signed]; omega
    have q3 : w3.drew.cell? ⟨b, 205, none⟩ = some (.slice a3 n3 c3) := HD.out.cext rfl
    go_region_law (first
      | (go_simp; go_at_call 94; refine (leftEncode_any Y (by omega) _).mono ?_; rintro e v4 ⟨g4, o4, rfl, hg4, sL, fL⟩; rw [← HmY.out] at sL ⊢; have SLe := Lib.hid sL; clear sL; have q3b := (HD.out.keep ((Fr.refl [] w3).drew.trans fL) (by simp)).cext rfl)
      | (refine step_append_srcC _ rfl _ _ 22 22 rfl w.heap.size 5 i0 (.int .u8 0) 1 1 Try.underlying22 hi hz0 hz1 hz2 rfl a3 n3 c3 (L3.map bv) rfl (Ow.row' (HO.out.keep0 ((Fr.refl _ _).drew.trans fL)) HN.out) _ mY ((lenc Y).map bv) rfl (SLe.out.src Try.underlying22) (by unfold maxLen; omega) (.inl (by have := HN1.out; have := HC2.out; have := HC3.out; omega)) (Nat.le_trans HF.out.size fL.size) ?_; intro a4 c4 w4a ho hg hcc; have q4 := ((HD.out.keep ((Fr.refl [] w3).drew.trans fL) (by simp)).grown hg (HO.out.own_ge (n := n3)) hbw).cext rfl; have z4 := ((HD.out.keep ((Fr.refl [] w3).drew.trans fL) (by simp)).grown hg (HO.out.own_ge (n := n3)) hbw).fz 205))
    all_goals
      have HC4 := Lib.hid hcc
      clear q3 e8 u8 u9 hcc
      have HF1 : Fr [b] w v4 := HF.out.trans ((Fr.refl [b] _).drew.trans (fL.mono (by simp)))
      have HD1 := (HD.out.keep ((Fr.refl [] w3).drew.trans fL) (by simp) : DgAt v4 b 70 _ _)
      have HLE : (lenc Y).length = mY := by rw [lenc_length, HmY.out]
      have hge := HO.out.own_ge (n := n3)
      have HF' : Fr [b] w w4a := grown_fr HF1 hg hge
      have HO' : Ow w4a w.heap.size 5 a4 c4 (L3 ++ lenc Y) := Ow.of ho (by rw [List.length_append, HN.out, HLE]) (by rw [List.map_append])
      have HN' : (L3 ++ lenc Y).length = n3 + mY := by rw [List.length_append, HN.out, HLE]
      have HD' := HD1.grown hg hge hbw
      have HD2 := HD'.setExt (.slice a4 (n3 + mY) c4)
      have HF2 : Fr [b] w (w4a.setCell ⟨b, 205, none⟩ (.slice a4 (n3 + mY) c4)) := HF'.setCell _ _ (.inr (by simp))
      have HO2 := HO'.keep ((Fr.refl [b] w4a).setCell ⟨b, 205, none⟩ (.slice a4 (n3 + mY) c4) (.inr (by simp))) (fun x hx => by simp; omega)
      clear ho hg HO HD HF HD' HO' HF' hge q4 z4 HN
      obtain ⟨L4, hL4⟩ : ∃ L4, L4 = L3 ++ lenc Y := ⟨_, rfl⟩
      rw [← hL4] at HO2 HN'
      generalize hn4 : n3 + mY = n4 at HN' HD2 HF2 HO2 ⊢
      generalize w4a.setCell ⟨b, 205, none⟩ (.slice a4 n4 c4) = w4 at HD2 HF2 HO2 ⊢
      have HL4 := Lib.hid hL4
      have HO := Lib.hid HO2
      have HN := Lib.hid HN'
      have HF := Lib.hid HF2
      have HD := Lib.hid HD2
      clear HO2 HN' HF2 HD2 hL4
      have S1 : Hid (Sl w4 ac nc cc S) := HNS.out.2.keep HF.out (fun x hx hn => by simp; exact HNB.out.2 x hx hn)
      have q4 := HD.out.cext rfl
      go_wp2_with (at_builtin; refine wpList_append_srcC _ rfl _ _ 22 22 rfl w.heap.size 5 i0 (.int .u8 0) 1 1 Try.underlying22 hi hz0 hz1 hz2 rfl a4 n4 c4 (L4.map bv) rfl (Ow.row' HO.out HN.out) _ nc (S.map bv) rfl (S1.out.src Try.underlying22) (by unfold maxLen; omega) (.inl (by have := HN1.out; have := HC2.out; have := HC3.out; have := HC4.out; omega)) HF.out.size ?_)
      intro a5 c5 w5a ho hg hcc
      have HC5 := Lib.hid hcc
      clear hcc
      have hge := HO.out.own_ge (n := n4)
      have HF' : Fr [b] w w5a := grown_fr HF.out hg hge
      have HO' : Ow w5a w.heap.size 5 a5 c5 (L4 ++ S) := Ow.of ho (by rw [List.length_append, HN.out, lS.out]) (by rw [List.map_append])
      have HN' : (L4 ++ S).length = n4 + nc := by rw [List.length_append, HN.out, lS.out]
      have HD' := HD.out.grown hg hge hbw
      have q5 := HD'.cext rfl
      have z5 := HD'.fz 205
      go_wp2_with fail
      clear q4 S1
      have HD2 := HD'.setExt (.slice a5 (n4 + nc) c5)
      have HF2 : Fr [b] w (w5a.setCell ⟨b, 205, none⟩ (.slice a5 (n4 + nc) c5)) := HF'.setCell _ _ (.inr (by simp))
      have HO2 := HO'.keep ((Fr.refl [b] w5a).setCell ⟨b, 205, none⟩ (.slice a5 (n4 + nc) c5) (.inr (by simp))) (fun x hx => by simp; omega)
      clear ho hg HO HD HF HD' HO' HF' hge q5 z5 HN
      obtain ⟨L5, hL5⟩ : ∃ L5, L5 = L4 ++ S := ⟨_, rfl⟩
      rw [← hL5] at HO2 HN'
      generalize hn5 : n4 + nc = n5 at HN' HD2 HF2 HO2 ⊢
      generalize w5a.setCell ⟨b, 205, none⟩ (.slice a5 n5 c5) = w5 at HD2 HF2 HO2 ⊢
      have HL5 := Lib.hid hL5
      have HO := Lib.hid HO2
      have HN := Lib.hid HN'
      have HF := Lib.hid HF2
      have HD := Lib.hid HD2
      clear HO2 HN' HF2 HD2 hL5
      have eL : L5 = iniOf N S := by
        rw [HL5.out, HL4.out, HL3.out, HL2.out, HL1.out, iniOf, encS, encS, lN.out, lS.out, HX8.out.1, HX8.out.2]
        simp
      have HEL := Lib.hid eL
      have hok : D.Ok ∧ D.st = 0 ∧ D.rate = 136 := by rw [HDD.out]; exact ⟨newD_ok _ _ _ (by decide) (by decide), rfl, rfl⟩
      have HOK := Lib.hid hok
      have d5 : DgAt w5.drew b 70 [.slice a5 n5 c5] D := HD.out
      have q5 := d5.cext rfl
      have q6 := d5.crate
      rw [hok.2.2] at q6
      have S5 : Hid (Sl w5.drew a5 n5 c5 L5) := (HO.out.sl_at HN.out).keep0 (Fr.refl _ _).drew
      have hne5 : ∀ x, a5 = some x → n5 ≠ 0 → x.block ≠ b := fun x hx _ => by
        subst hx
        have := HO.out.block.2.2.1
        omega
      have HNE := Lib.hid hne5
      have HD5 := Lib.hid d5
      clear eL hok d5 hne5
      have hn5 : n5 ≤ 281474976710656 := by omega
      go_region_held3 (fun w' => w'.cell? ⟨b, 205, none⟩ = some (.slice a5 n5 c5) ∧ w'.cell? ⟨b, 201, none⟩ = some (.int .i64 136) ∧ True)
        (first | (exact ⟨q5, q6, trivial⟩) | (exact ⟨q7, q8, trivial⟩) | (go_keep))
        (first | (go_at_call 77; refine (bytepadWrite_any w5.drew b 70 _ D a5 n5 c5 L5 136 HD5.out HOK.out.1 HOK.out.2.1 S5.out HNE.out (by decide) (by decide) hn5).mono ?_; rintro e w6 ⟨rfl, D6, f6⟩; have q7 := D6.cext rfl; have q8 : w6.cell? ⟨b, 201, none⟩ = some (.int .i64 136) := by rw [D6.crate, (absorb_ok HOK.out.1 _).2.1, HOK.out.2.2]; rfl))
      have HD6 := Lib.hid D6
      clear q5 q6 q7 q8 D6
      go_wp2_with fail
      go_ret
      have S6 := S5.out.keep f6 (fun x hx hn => by simp; exact HNE.out x hx hn)
      have D6 := HD6.out
      have hl : n5 = (iniOf N S).length := by rw [← HEL.out, HN.out]
      rw [HEL.out, HDD.out] at D6
      rw [HEL.out] at S6
      rw [hl] at S6 D6
      exact ⟨a5, c5, rfl, S6, fun x hx => by subst hx; exact ⟨HO.out.block.2.2.1, HO.out.off0⟩, D6, HF.out.trans ((Fr.refl [b] _).drew.trans f6)⟩

end Go.Proofs.Ytkijnpjefccepaa
end

section
namespace Go.Sha
open Go.RowKit
theorem foldSet (l : List Value) : ∀ (k : Nat) (Z : Array Value) (i : Nat), (List.foldl (fun (cs : Array Value) (p : Value × Nat) => cs.setIfInBounds (0 + p.2) p.1) Z (l.zipIdx k))[i]? = if k ≤ i ∧ i < k + l.length ∧ i < Z.size then l[i - k]? else Z[i]? := by
  induction l with
  | nil =>
    intro k Z i
    simp only [List.zipIdx_nil, List.foldl_nil, List.length_nil, Nat.add_zero]
    rw [if_neg (by omega)]
  | cons v l ih =>
    intro k Z i
    simp only [List.zipIdx_cons, List.foldl_cons, List.length_cons]
    rw [ih, Array.size_setIfInBounds, Nat.zero_add, Array.getElem?_setIfInBounds]
    by_cases h1 : i < Z.size
    · by_cases h2 : k = i
      · subst h2
        rw [if_neg (by omega), if_pos rfl, if_pos h1, if_pos (by omega)]
        simp
      · by_cases h3 : k + 1 ≤ i ∧ i < k + 1 + l.length
        · rw [if_pos (by omega), if_pos (by omega), show i - k = (i - (k + 1)) + 1 by omega]
          simp
        · rw [if_neg (by omega), if_neg h2, if_neg (by omega)]
    · have hz : Z[i]? = none := Array.getElem?_eq_none (by omega)
      rw [if_neg (show ¬ (k + 1 ≤ i ∧ i < k + 1 + l.length ∧ i < Z.size) from fun h => h1 h.2.2), if_neg (show ¬ (k ≤ i ∧ i < k + (l.length + 1) ∧ i < Z.size) from fun h => h1 h.2.2), hz]
      by_cases h2 : k = i
      · rw [if_pos h2, if_neg (by omega)]
      · rw [if_neg h2]
theorem fill_whole (Z C : Array Value) (h : C.size = Z.size) : Instr.fill (fun i => (#[(0, Z.size)] : Array (Nat × Nat))[i]?) Z [(0, .agg C)] = some C := by
  have hc : (Value.agg C).cells = C := rfl
  unfold Instr.fill
  simp only [hc, List.getElem?_toArray, List.getElem?_cons_zero]
  rw [if_neg (by simp [h])]
  unfold Instr.fill
  congr 1
  apply Array.ext_getElem?
  intro i
  rw [← Array.foldl_toList, Array.toList_zipIdx]
  rw [foldSet]
  by_cases hi : i < Z.size
  · rw [if_pos (by simp; omega)]
    simp
  · rw [if_neg (by omega), Array.getElem?_eq_none (by omega), Array.getElem?_eq_none (by omega)]
end Go.Sha
namespace Go.Proofs.Ytkijnpjefccepaa
open Go.ChangeShapes Go.WideShapes Go.ChangeAt Go.RowKit Go.Sha
theorem zeroC_size : ((newD 0 0 0).cells ++ [Value.slice none 0 0]).toArray.size = 206 := by rw [List.size_toArray, Dg.cells1_length _ _ List.length_replicate]
theorem builtSX (C : Array Value) (hC : C.size = 206) : Try.prog.built 72 [(0, .agg C)] = some C := by
  have e : Try.prog.built 72 [(0, .agg C)] = Instr.fill (fun i => (#[(0, 206)] : Array (Nat × Nat))[i]?) ((newD 0 0 0).cells ++ [Value.slice none 0 0]).toArray [(0, .agg C)] := by kernel_rfl
  rw [e, ← zeroC_size]
  exact fill_whole _ _ (by rw [hC, zeroC_size])
theorem builtF0 : Try.prog.built 70 [] = some ((newD 0 0 0).cells ++ [Value.slice none 0 0]).toArray := by kernel_rfl
/-- a new function in block b: what lies there, and the block of name and customization, which is new -/
def RetC (v : Value) (T b : Nat) (p : XP) (S : List Nat) (w : World) (e : Ending) (w' : World) : Prop := ∃ a c, e = .returned v ∧ Sl w' a p.ini.length c p.ini ∧ (∀ x, a = some x → w.heap.size ≤ x.block ∧ x.off = 0) ∧ DgAt w' b T [.slice a p.ini.length c] (absorb (newD p.r p.o p.ds) p.hd) ∧ Fr S w w'

theorem xpOf3_empty (N S : Bs) (hn : N.length = 0) (hs : S.length = 0) : xpOf 3 N S = ⟨168, 32, 31, 9, [], []⟩ := by
  unfold xpOf
  rw [if_neg (by decide), if_neg (by decide), if_pos ⟨hn, hs⟩]
  rfl
theorem xpOf3_full (N S : Bs) (h : ¬ (N.length = 0 ∧ S.length = 0)) : xpOf 3 N S = ⟨168, 32, 4, 10, iniOf N S, bpad 168 (iniOf N S)⟩ := by
  unfold xpOf
  rw [if_neg (by decide), if_neg (by decide), if_neg h]
  rfl
set_option maxRecDepth 100000 in
theorem newCShake128_any (w : World) (b : Nat) (an ac : Option Addr) (nn cn nc cc : Nat) (N S : Bs) (h : DgAt w b 70 [.slice none 0 0] (newD 0 0 0)) (hN : Sl w an nn cn N) (hS : Sl w ac nc cc S) (hNb : ∀ x, an = some x → nn ≠ 0 → x.block ≠ b) (hSb : ∀ x, ac = some x → nc ≠ 0 → x.block ≠ b) (hnn : nn ≤ 140737488351232) (hnc : nc ≤ 140737488351232) :
    Calls Try.prog 70 #[.pointer (some ⟨b, 0, none⟩), .slice an nn cn, .slice ac nc cc] w (RetC (.pointer (some ⟨b, 0, none⟩)) 70 b (xpOf 3 N S) [b] w) := by
  have hlN := hN.len
  have hlS := hS.len
  by_cases hz : nn = 0 ∧ nc = 0
  · obtain ⟨rfl, rfl⟩ := hz
    rw [xpOf3_empty N S hlN hlS]
    have HD := Lib.hid h
    clear h hN hS hNb hSb
    go_enter Try.func70, Try.ntmps70
    go_wp2_with fail
    refine (NewShake128_any w).mono ?_
    rintro e w1 ⟨rfl, D1, f1, z1⟩
    have hbw := HD.out.lt
    have H1 : Hid (w1.heap[w.heap.size]? = some (.cells ((newD 168 32 31).cells ++ [Value.slice none 0 0]).toArray 70 (0, 0))) := D1.2
    have H0 : Hid (w1.heap[b]? = some (.cells ((newD 0 0 0).cells ++ [Value.slice none 0 0]).toArray 70 (0, 0))) := (HD.out.keep f1 (by simp)).2
    obtain ⟨C, hC⟩ : ∃ C, C = ((newD 168 32 31).cells ++ [Value.slice none 0 0]).toArray := ⟨_, rfl⟩
    obtain ⟨Z, hZ⟩ : ∃ Z, Z = ((newD 0 0 0).cells ++ [Value.slice none 0 0]).toArray := ⟨_, rfl⟩
    have hs : Hid (C.size = 206 ∧ Z.size = 206 ∧ ∀ v ∈ C.toList, v.oneCell' = true) := by
      rw [hC, hZ]
      exact ⟨by rw [List.size_toArray, Dg.cells1_length _ _ List.length_replicate], zeroC_size, fun v hv => (newD 168 32 31).cells1_one none 0 0 v (by simpa using hv)⟩
    rw [← hC] at H1
    rw [← hZ] at H0
    have HC := Lib.hid hC
    clear D1 hC hZ z1
    go_wp2_with (refine wpList_load_row rfl _ _ rfl w.heap.size rfl _ C (0, 0) _ H1.out Try.underlying70 rfl (by rw [hs.out.1]; exact sizeFX) ?_; refine Hid.out ?_)
    show wpList _ _ _ _ _ _
    go_wp2_with (refine wpList_store_bits rfl _ _ _ rfl b rfl 70 C Z rfl H0.out (by rw [hs.out.1, hs.out.2.1]) hs.out.2.2 (by rw [hs.out.1]; exact sizeFX) ?_; refine Hid.out ?_)
    show wpList _ _ _ _ _ _
    have D2 : DgAt (w1.setRow b C) b 70 [.slice none 0 0] (newD 168 32 31) := ⟨List.length_replicate, by rw [← HC.out]; exact setRow_heap _ _ _ _ _ _ H0.out⟩
    have f2 : Fr [b] w (w1.setRow b C) := (f1.mono (by simp)).setRow _ _ (.inr (by simp))
    generalize w1.setRow b C = w2 at D2 f2 ⊢
    have H2 := Lib.hid D2
    clear D2
    go_wp2_with fail
    go_ret
    exact ⟨none, 0, rfl, ⟨rfl, Nat.le_refl _, by simp [maxLen], .inl rfl⟩, (fun x hx => by cases hx), H2.out, f2⟩
  · rw [xpOf3_full N S (by rw [hlN, hlS]; exact hz)]
    have C1 := newCShake168 w b an ac nn cn nc cc N S h hN hS hNb hSb hnn hnc
    have HC1 := Lib.hid C1
    clear C1 h hN hS hNb hSb
    by_cases h1 : nn = 0
    · have h2 : ¬ nc = 0 := fun e => hz ⟨h1, e⟩
      subst h1
      have t2 : (((nc : Nat) : Int) == 0) = false := by rw [beq_eq_false_iff_ne]; omega
      clear h2 hz
      go_enter Try.func70, Try.ntmps70
      go_wp2_with fail
      refine HC1.out.mono ?_
      rintro e w1 ⟨a, c, rfl, h1, h2, h3, h4⟩
      have H1 := Lib.hid (And.intro h1 (And.intro h2 (And.intro h3 h4)))
      clear h1 h2 h3 h4
      go_wp2_with fail
      go_ret
      exact ⟨a, c, rfl, H1.out.1, H1.out.2.1, H1.out.2.2.1, H1.out.2.2.2⟩
    · have t1 : (((nn : Nat) : Int) == 0) = false := by rw [beq_eq_false_iff_ne]; omega
      clear hz
      go_enter Try.func70, Try.ntmps70
      go_wp2_with fail
      refine HC1.out.mono ?_
      rintro e w1 ⟨a, c, rfl, h1, h2, h3, h4⟩
      have H1 := Lib.hid (And.intro h1 (And.intro h2 (And.intro h3 h4)))
      clear h1 h2 h3 h4
      go_wp2_with fail
      go_ret
      exact ⟨a, c, rfl, H1.out.1, H1.out.2.1, H1.out.2.2.1, H1.out.2.2.2⟩
set_option maxRecDepth 100000 in
theorem NewCShake128_any (w : World) (an ac : Option Addr) (nn cn nc cc : Nat) (N S : Bs) (hN : Sl w an nn cn N) (hS : Sl w ac nc cc S) (hnn : nn ≤ 140737488351232) (hnc : nc ≤ 140737488351232) :
    Calls Try.prog 57 #[.slice an nn cn, .slice ac nc cc] w (RetC (.pointer (some ⟨w.heap.size, 0, none⟩)) 70 w.heap.size (xpOf 3 N S) [] w) := by
  have f1 : Fr [] w (w.alloc (.cells ((newD 0 0 0).cells ++ [Value.slice none 0 0]).toArray 70)) := (Fr.refl _ _).alloc _
  have D1 : DgAt (w.alloc (.cells ((newD 0 0 0).cells ++ [Value.slice none 0 0]).toArray 70)) w.heap.size 70 [.slice none 0 0] (newD 0 0 0) := newD_at w 70 0 0 0 _
  have hNb : ∀ x, an = some x → nn ≠ 0 → x.block ≠ w.heap.size := fun x hx hn => by have := hN.lt hx hn; omega
  have hSb : ∀ x, ac = some x → nc ≠ 0 → x.block ≠ w.heap.size := fun x hx hn => by have := hS.lt hx hn; omega
  have C1 := newCShake128_any _ w.heap.size an ac nn cn nc cc N S D1 (hN.keep0 f1) (hS.keep0 f1) hNb hSb hnn hnc
  have HC1 := Lib.hid C1
  clear C1 D1 hN hS hNb hSb
  obtain ⟨Z, hZ⟩ : ∃ Z, Z = ((newD 0 0 0).cells ++ [Value.slice none 0 0]).toArray := ⟨_, rfl⟩
  have hb := builtF0
  rw [← hZ] at hb HC1 f1
  have HB := Lib.hid hb
  clear hb hZ
  go_enter Try.func57, Try.ntmps57
  go_wp2_with (first | (refine wpList_build0 rfl 70 rfl Z HB.out ?_; refine Hid.out ?_))
  show wpList _ _ _ _ _ _
  refine wpList_box_row rfl _ _ rfl Z rfl ?_
  generalize w.alloc (.cells Z 70) = w1 at f1 HC1 ⊢
  go_wp2_with fail
  refine HC1.out.mono ?_
  rintro e w2 ⟨a, c, rfl, h1, h2, h3, h4⟩
  have H1 := Lib.hid (And.intro h1 (And.intro h2 (And.intro h3 h4)))
  clear h1 h2 h3 h4
  go_wp2_with fail
  go_ret
  exact ⟨a, c, rfl, H1.out.1, fun x hx => ⟨Nat.le_trans f1.size (H1.out.2.1 x hx).1, (H1.out.2.1 x hx).2⟩, H1.out.2.2.1, f1.via H1.out.2.2.2 (by simp)⟩
set_option maxRecDepth 100000 in
theorem NewCSHAKE128_any (w : World) (an ac : Option Addr) (nn cn nc cc : Nat) (N S : Bs) (hN : Sl w an nn cn N) (hS : Sl w ac nc cc S) (hnn : nn ≤ 140737488351232) (hnc : nc ≤ 140737488351232) :
    Calls Try.prog 39 #[.slice an nn cn, .slice ac nc cc] w fun e w' => ∃ g, w.heap.size ≤ g ∧ g < w'.heap.size ∧ (∃ a c, e = .returned (.pointer (some ⟨g, 0, none⟩)) ∧ Sl w' a (xpOf 3 N S).ini.length c (xpOf 3 N S).ini ∧ (∀ x, a = some x → w.heap.size ≤ x.block ∧ x.off = 0) ∧ (∀ x, a = some x → (xpOf 3 N S).ini.length ≠ 0 → x.block ≠ g) ∧ DgAt w' g 72 [.slice a (xpOf 3 N S).ini.length c] (absorb (newD (xpOf 3 N S).r (xpOf 3 N S).o (xpOf 3 N S).ds) (xpOf 3 N S).hd)) ∧ Fr [] w w' := by
  have C1 := NewCShake128_any w an ac nn cn nc cc N S hN hS hnn hnc
  have HC1 := Lib.hid C1
  clear C1 hN hS
  have hpo := xpOf_ok 3 N S
  generalize xpOf 3 N S = p at HC1 hpo ⊢
  have HPO := Lib.hid hpo
  clear hpo
  go_enter Try.func39, Try.ntmps39
  go_wp2_with fail
  refine HC1.out.mono ?_
  rintro e w1 ⟨a, c, rfl, h1, h2, D1, f1⟩
  obtain ⟨d, hd⟩ : ∃ d, d = absorb (newD p.r p.o p.ds) p.hd := ⟨_, rfl⟩
  rw [← hd] at D1
  have hda := D1.1
  have H1 : Hid (w1.heap[w.heap.size]? = some (.cells (d.cells ++ [Value.slice a p.ini.length c]).toArray 70 (0, 0))) := D1.2
  obtain ⟨C, hC⟩ : ∃ C, C = (d.cells ++ [Value.slice a p.ini.length c]).toArray := ⟨_, rfl⟩
  have hs : C.size = 206 := by rw [hC, List.size_toArray, Dg.cells1_length _ _ hda]
  have HSZ := Lib.hid hs
  have HBB := Lib.hid (builtSX C hs)
  rw [← hC] at H1
  have HC := Lib.hid hC
  have HDE := Lib.hid (And.intro hd hda)
  have HSL := Lib.hid (And.intro h1 h2)
  clear D1 hC hs h1 h2 hd hda
  go_wp2_with (refine wpList_load_row rfl _ _ rfl w.heap.size rfl _ C (0, 0) _ H1.out Try.underlying70 rfl (by rw [HSZ.out]; exact sizeFX) ?_; refine Hid.out ?_)
  show wpList _ _ _ _ _ _
  refine wpList_build1 rfl 72 0 _ (.agg C) rfl rfl C HBB.out ?_
  refine wpList_box_row rfl _ _ rfl C rfl ?_
  have D2 : DgAt (w1.alloc (.cells C 72)) w1.heap.size 72 [.slice a p.ini.length c] d := ⟨HDE.out.2, by rw [← HC.out]; exact Go.heap_alloc_new w1 _⟩
  have f12 : Fr [] w1 (w1.alloc (.cells C 72)) := (Fr.refl _ _).alloc _
  have z2 : w1.heap.size < (w1.alloc (.cells C 72)).heap.size := by simp
  generalize w1.alloc (.cells C 72) = w2 at D2 f12 z2 ⊢
  have H2 := Lib.hid D2
  clear D2
  go_wp2_with fail
  go_ret
  refine ⟨w1.heap.size, f1.size, z2, ⟨a, c, rfl, HSL.out.1.keep0 f12, HSL.out.2, fun x hx hn => ?_, by rw [← HDE.out.1]; exact H2.out⟩, f1.trans f12⟩
  have := HSL.out.1.lt hx hn
  omega

theorem xpOf4_empty (N S : Bs) (hn : N.length = 0) (hs : S.length = 0) : xpOf 4 N S = ⟨136, 64, 31, 9, [], []⟩ := by
  unfold xpOf
  rw [if_neg (by decide), if_neg (by decide), if_pos ⟨hn, hs⟩]
  rfl
theorem xpOf4_full (N S : Bs) (h : ¬ (N.length = 0 ∧ S.length = 0)) : xpOf 4 N S = ⟨136, 64, 4, 10, iniOf N S, bpad 136 (iniOf N S)⟩ := by
  unfold xpOf
  rw [if_neg (by decide), if_neg (by decide), if_neg h]
  rfl
set_option maxRecDepth 100000 in
theorem newCShake256_any (w : World) (b : Nat) (an ac : Option Addr) (nn cn nc cc : Nat) (N S : Bs) (h : DgAt w b 70 [.slice none 0 0] (newD 0 0 0)) (hN : Sl w an nn cn N) (hS : Sl w ac nc cc S) (hNb : ∀ x, an = some x → nn ≠ 0 → x.block ≠ b) (hSb : ∀ x, ac = some x → nc ≠ 0 → x.block ≠ b) (hnn : nn ≤ 140737488351232) (hnc : nc ≤ 140737488351232) :
    Calls Try.prog 71 #[.pointer (some ⟨b, 0, none⟩), .slice an nn cn, .slice ac nc cc] w (RetC (.pointer (some ⟨b, 0, none⟩)) 70 b (xpOf 4 N S) [b] w) := by
  have hlN := hN.len
  have hlS := hS.len
  by_cases hz : nn = 0 ∧ nc = 0
  · obtain ⟨rfl, rfl⟩ := hz
    rw [xpOf4_empty N S hlN hlS]
    have HD := Lib.hid h
    clear h hN hS hNb hSb
    go_enter Try.func71, Try.ntmps71
    go_wp2_with fail
    refine (NewShake256_any w).mono ?_
    rintro e w1 ⟨rfl, D1, f1, z1⟩
    have hbw := HD.out.lt
    have H1 : Hid (w1.heap[w.heap.size]? = some (.cells ((newD 136 64 31).cells ++ [Value.slice none 0 0]).toArray 70 (0, 0))) := D1.2
    have H0 : Hid (w1.heap[b]? = some (.cells ((newD 0 0 0).cells ++ [Value.slice none 0 0]).toArray 70 (0, 0))) := (HD.out.keep f1 (by simp)).2
    obtain ⟨C, hC⟩ : ∃ C, C = ((newD 136 64 31).cells ++ [Value.slice none 0 0]).toArray := ⟨_, rfl⟩
    obtain ⟨Z, hZ⟩ : ∃ Z, Z = ((newD 0 0 0).cells ++ [Value.slice none 0 0]).toArray := ⟨_, rfl⟩
    have hs : Hid (C.size = 206 ∧ Z.size = 206 ∧ ∀ v ∈ C.toList, v.oneCell' = true) := by
      rw [hC, hZ]
      exact ⟨by rw [List.size_toArray, Dg.cells1_length _ _ List.length_replicate], zeroC_size, fun v hv => (newD 136 64 31).cells1_one none 0 0 v (by simpa using hv)⟩
    rw [← hC] at H1
    rw [← hZ] at H0
    have HC := Lib.hid hC
    clear D1 hC hZ z1
    go_wp2_with (refine wpList_load_row rfl _ _ rfl w.heap.size rfl _ C (0, 0) _ H1.out Try.underlying70 rfl (by rw [hs.out.1]; exact sizeFX) ?_; refine Hid.out ?_)
    show wpList _ _ _ _ _ _
    go_wp2_with (refine wpList_store_bits rfl _ _ _ rfl b rfl 70 C Z rfl H0.out (by rw [hs.out.1, hs.out.2.1]) hs.out.2.2 (by rw [hs.out.1]; exact sizeFX) ?_; refine Hid.out ?_)
    show wpList _ _ _ _ _ _
    have D2 : DgAt (w1.setRow b C) b 70 [.slice none 0 0] (newD 136 64 31) := ⟨List.length_replicate, by rw [← HC.out]; exact setRow_heap _ _ _ _ _ _ H0.out⟩
    have f2 : Fr [b] w (w1.setRow b C) := (f1.mono (by simp)).setRow _ _ (.inr (by simp))
    generalize w1.setRow b C = w2 at D2 f2 ⊢
    have H2 := Lib.hid D2
    clear D2
    go_wp2_with fail
    go_ret
    exact ⟨none, 0, rfl, ⟨rfl, Nat.le_refl _, by simp [maxLen], .inl rfl⟩, (fun x hx => by cases hx), H2.out, f2⟩
  · rw [xpOf4_full N S (by rw [hlN, hlS]; exact hz)]
    have C1 := newCShake136 w b an ac nn cn nc cc N S h hN hS hNb hSb hnn hnc
    have HC1 := Lib.hid C1
    clear C1 h hN hS hNb hSb
    by_cases h1 : nn = 0
    · have h2 : ¬ nc = 0 := fun e => hz ⟨h1, e⟩
      subst h1
      have t2 : (((nc : Nat) : Int) == 0) = false := by rw [beq_eq_false_iff_ne]; omega
      clear h2 hz
      go_enter Try.func71, Try.ntmps71
      go_wp2_with fail
      refine HC1.out.mono ?_
      rintro e w1 ⟨a, c, rfl, h1, h2, h3, h4⟩
      have H1 := Lib.hid (And.intro h1 (And.intro h2 (And.intro h3 h4)))
      clear h1 h2 h3 h4
      go_wp2_with fail
      go_ret
      exact ⟨a, c, rfl, H1.out.1, H1.out.2.1, H1.out.2.2.1, H1.out.2.2.2⟩
    · have t1 : (((nn : Nat) : Int) == 0) = false := by rw [beq_eq_false_iff_ne]; omega
      clear hz
      go_enter Try.func71, Try.ntmps71
      go_wp2_with fail
      refine HC1.out.mono ?_
      rintro e w1 ⟨a, c, rfl, h1, h2, h3, h4⟩
      have H1 := Lib.hid (And.intro h1 (And.intro h2 (And.intro h3 h4)))
      clear h1 h2 h3 h4
      go_wp2_with fail
      go_ret
      exact ⟨a, c, rfl, H1.out.1, H1.out.2.1, H1.out.2.2.1, H1.out.2.2.2⟩
set_option maxRecDepth 100000 in
theorem NewCShake256_any (w : World) (an ac : Option Addr) (nn cn nc cc : Nat) (N S : Bs) (hN : Sl w an nn cn N) (hS : Sl w ac nc cc S) (hnn : nn ≤ 140737488351232) (hnc : nc ≤ 140737488351232) :
    Calls Try.prog 58 #[.slice an nn cn, .slice ac nc cc] w (RetC (.pointer (some ⟨w.heap.size, 0, none⟩)) 70 w.heap.size (xpOf 4 N S) [] w) := by
  have f1 : Fr [] w (w.alloc (.cells ((newD 0 0 0).cells ++ [Value.slice none 0 0]).toArray 70)) := (Fr.refl _ _).alloc _
  have D1 : DgAt (w.alloc (.cells ((newD 0 0 0).cells ++ [Value.slice none 0 0]).toArray 70)) w.heap.size 70 [.slice none 0 0] (newD 0 0 0) := newD_at w 70 0 0 0 _
  have hNb : ∀ x, an = some x → nn ≠ 0 → x.block ≠ w.heap.size := fun x hx hn => by have := hN.lt hx hn; omega
  have hSb : ∀ x, ac = some x → nc ≠ 0 → x.block ≠ w.heap.size := fun x hx hn => by have := hS.lt hx hn; omega
  have C1 := newCShake256_any _ w.heap.size an ac nn cn nc cc N S D1 (hN.keep0 f1) (hS.keep0 f1) hNb hSb hnn hnc
  have HC1 := Lib.hid C1
  clear C1 D1 hN hS hNb hSb
  obtain ⟨Z, hZ⟩ : ∃ Z, Z = ((newD 0 0 0).cells ++ [Value.slice none 0 0]).toArray := ⟨_, rfl⟩
  have hb := builtF0
  rw [← hZ] at hb HC1 f1
  have HB := Lib.hid hb
  clear hb hZ
  go_enter Try.func58, Try.ntmps58
  go_wp2_with (first | (refine wpList_build0 rfl 70 rfl Z HB.out ?_; refine Hid.out ?_))
  show wpList _ _ _ _ _ _
  refine wpList_box_row rfl _ _ rfl Z rfl ?_
  generalize w.alloc (.cells Z 70) = w1 at f1 HC1 ⊢
  go_wp2_with fail
  refine HC1.out.mono ?_
  rintro e w2 ⟨a, c, rfl, h1, h2, h3, h4⟩
  have H1 := Lib.hid (And.intro h1 (And.intro h2 (And.intro h3 h4)))
  clear h1 h2 h3 h4
  go_wp2_with fail
  go_ret
  exact ⟨a, c, rfl, H1.out.1, fun x hx => ⟨Nat.le_trans f1.size (H1.out.2.1 x hx).1, (H1.out.2.1 x hx).2⟩, H1.out.2.2.1, f1.via H1.out.2.2.2 (by simp)⟩
set_option maxRecDepth 100000 in
theorem NewCSHAKE256_any (w : World) (an ac : Option Addr) (nn cn nc cc : Nat) (N S : Bs) (hN : Sl w an nn cn N) (hS : Sl w ac nc cc S) (hnn : nn ≤ 140737488351232) (hnc : nc ≤ 140737488351232) :
    Calls Try.prog 41 #[.slice an nn cn, .slice ac nc cc] w fun e w' => ∃ g, w.heap.size ≤ g ∧ g < w'.heap.size ∧ (∃ a c, e = .returned (.pointer (some ⟨g, 0, none⟩)) ∧ Sl w' a (xpOf 4 N S).ini.length c (xpOf 4 N S).ini ∧ (∀ x, a = some x → w.heap.size ≤ x.block ∧ x.off = 0) ∧ (∀ x, a = some x → (xpOf 4 N S).ini.length ≠ 0 → x.block ≠ g) ∧ DgAt w' g 72 [.slice a (xpOf 4 N S).ini.length c] (absorb (newD (xpOf 4 N S).r (xpOf 4 N S).o (xpOf 4 N S).ds) (xpOf 4 N S).hd)) ∧ Fr [] w w' := by
  have C1 := NewCShake256_any w an ac nn cn nc cc N S hN hS hnn hnc
  have HC1 := Lib.hid C1
  clear C1 hN hS
  have hpo := xpOf_ok 4 N S
  generalize xpOf 4 N S = p at HC1 hpo ⊢
  have HPO := Lib.hid hpo
  clear hpo
  go_enter Try.func41, Try.ntmps41
  go_wp2_with fail
  refine HC1.out.mono ?_
  rintro e w1 ⟨a, c, rfl, h1, h2, D1, f1⟩
  obtain ⟨d, hd⟩ : ∃ d, d = absorb (newD p.r p.o p.ds) p.hd := ⟨_, rfl⟩
  rw [← hd] at D1
  have hda := D1.1
  have H1 : Hid (w1.heap[w.heap.size]? = some (.cells (d.cells ++ [Value.slice a p.ini.length c]).toArray 70 (0, 0))) := D1.2
  obtain ⟨C, hC⟩ : ∃ C, C = (d.cells ++ [Value.slice a p.ini.length c]).toArray := ⟨_, rfl⟩
  have hs : C.size = 206 := by rw [hC, List.size_toArray, Dg.cells1_length _ _ hda]
  have HSZ := Lib.hid hs
  have HBB := Lib.hid (builtSX C hs)
  rw [← hC] at H1
  have HC := Lib.hid hC
  have HDE := Lib.hid (And.intro hd hda)
  have HSL := Lib.hid (And.intro h1 h2)
  clear D1 hC hs h1 h2 hd hda
  go_wp2_with (refine wpList_load_row rfl _ _ rfl w.heap.size rfl _ C (0, 0) _ H1.out Try.underlying70 rfl (by rw [HSZ.out]; exact sizeFX) ?_; refine Hid.out ?_)
  show wpList _ _ _ _ _ _
  refine wpList_build1 rfl 72 0 _ (.agg C) rfl rfl C HBB.out ?_
  refine wpList_box_row rfl _ _ rfl C rfl ?_
  have D2 : DgAt (w1.alloc (.cells C 72)) w1.heap.size 72 [.slice a p.ini.length c] d := ⟨HDE.out.2, by rw [← HC.out]; exact Go.heap_alloc_new w1 _⟩
  have f12 : Fr [] w1 (w1.alloc (.cells C 72)) := (Fr.refl _ _).alloc _
  have z2 : w1.heap.size < (w1.alloc (.cells C 72)).heap.size := by simp
  generalize w1.alloc (.cells C 72) = w2 at D2 f12 z2 ⊢
  have H2 := Lib.hid D2
  clear D2
  go_wp2_with fail
  go_ret
  refine ⟨w1.heap.size, f1.size, z2, ⟨a, c, rfl, HSL.out.1.keep0 f12, HSL.out.2, fun x hx hn => ?_, by rw [← HDE.out.1]; exact H2.out⟩, f1.trans f12⟩
  have := HSL.out.1.lt hx hn
  omega

end Go.Proofs.Ytkijnpjefccepaa
end

section
namespace Go.Sha
theorem reset_eqX (d : Dg) (p : XP) (h1 : d.rate = p.r) (h2 : d.ds = p.ds) (h3 : d.out = p.o) : ({ d with a := List.replicate 200 0, n := 0, st := 0 } : Dg) = newD p.r p.o p.ds := by
  obtain ⟨da, dn, dr, dd, dou, dst⟩ := d
  simp only at h1 h2 h3
  subst h1 h2 h3
  rfl
/-- the bytes that are absorbed first are those of name and customization, padded -/
structure XP.Hd (p : XP) : Prop where
  h0 : p.ini.length = 0 → p.hd = []
  h1 : p.ini.length ≠ 0 → p.hd = bpad p.r p.ini
  il : p.ini.length ≤ 281474976702482
theorem xpOf_hd (k : Nat) (n s : Bs) (hn : n.length ≤ 140737488351232) (hs : s.length ≤ 140737488351232) : (xpOf k n s).Hd := by
  have hl : (iniOf n s).length ≤ 281474976702482 := by
    have h1 := nb_le (8 * n.length)
    have h2 := nb_le (8 * s.length)
    rw [iniOf, List.length_append, encS_length, encS_length]
    omega
  have hl0 : (iniOf n s).length ≠ 0 := by
    rw [iniOf, List.length_append, encS_length]
    omega
  unfold xpOf
  repeat' split
  all_goals first | exact ⟨fun _ => rfl, fun h => absurd rfl h, by simp⟩ | exact ⟨fun h => absurd h hl0, fun _ => rfl, hl⟩
/-- of short names and customizations -/
theorem xpOf_il (k : Nat) (n s : Bs) (hn : n.length ≤ 1099511627776) (hs : s.length ≤ 1099511627776) : (xpOf k n s).ini.length ≤ 4398046511104 := by
  have hl : (iniOf n s).length ≤ 4398046511104 := by
    have h1 := nb_le (8 * n.length)
    have h2 := nb_le (8 * s.length)
    rw [iniOf, List.length_append, encS_length, encS_length]
    omega
  unfold xpOf
  repeat' split
  all_goals first | exact hl | simp
end Go.Sha
namespace Go.Proofs.Ytkijnpjefccepaa
open Go.ChangeShapes Go.WideShapes Go.ChangeAt Go.RowKit Go.Sha
theorem zeroSX : ((Try.prog.info? 72).bind (·.zero)).map (·.cells) = some ((newD 0 0 0).cells ++ [Value.slice none 0 0]).toArray := by kernel_rfl
/-- a pointer to a new function -/
def RetNX (p : XP) (w : World) (e : Ending) (w' : World) : Prop := ∃ g, e = .returned (.pointer (some ⟨g, 0, none⟩)) ∧ w.heap.size ≤ g ∧ g < w'.heap.size ∧ (∀ S, (∀ k ∈ S, k < w.heap.size) → XsAt w' g 72 p (g :: S) ⟨p.hd, none⟩) ∧ Fr [] w w'
theorem XsAt_plain {w' : World} {g : Nat} {S : List Nat} {p : XP} (hi : p.ini = []) (hh : p.hd = []) (h : DgAt w' g 72 [.slice none 0 0] (newD p.r p.o p.ds)) : XsAt w' g 72 p S ⟨p.hd, none⟩ := by
  refine ⟨none, 0, ?_, (fun y hy => by cases hy), .inl ?_⟩
  · rw [hi]
    exact ⟨rfl, Nat.le_refl _, by simp [maxLen], .inl rfl⟩
  · rw [hi, hh]
    exact h

theorem newXof_0 (kind : Int) (an ac : Option Addr) (nn cn nc cc : Nat) (N S : Bs) (w : World) (hk : kind % 5 = ((0 : Nat) : Int)) : Calls Try.prog 29 #[.int .i64 kind, .slice an nn cn, .slice ac nc cc] w (RetNX (xpOf 0 N S) w) := by
  have t0 : ((0 : Int) == 0) = true := by decide
  have HK := Lib.hid hk
  clear hk
  go_enter Try.func29, Try.ntmps29
  go_wp2_with fail
  refine (place_nat kind 5 0 w (by decide) (by decide) HK.out).mono ?_
  rintro e w' ⟨rfl, rfl⟩
  go_wp2_with fail
  refine (libNewSHAKE128_any w').mono ?_
  rintro e w1 ⟨g, rfl, h1, h2, h3, h4⟩
  have H3 := Lib.hid h3
  clear h3
  go_wp2_with fail
  go_ret
  exact ⟨g, rfl, h1, h2, fun S _ => XsAt_plain rfl rfl H3.out, h4⟩

theorem newXof_1 (kind : Int) (an ac : Option Addr) (nn cn nc cc : Nat) (N S : Bs) (w : World) (hk : kind % 5 = ((1 : Nat) : Int)) : Calls Try.prog 29 #[.int .i64 kind, .slice an nn cn, .slice ac nc cc] w (RetNX (xpOf 1 N S) w) := by
  have t0 : ((1 : Int) == 0) = false := by decide
  have t1 : ((1 : Int) == 1) = true := by decide
  have HK := Lib.hid hk
  clear hk
  go_enter Try.func29, Try.ntmps29
  go_wp2_with fail
  refine (place_nat kind 5 1 w (by decide) (by decide) HK.out).mono ?_
  rintro e w' ⟨rfl, rfl⟩
  go_wp2_with fail
  refine (libNewSHAKE256_any w').mono ?_
  rintro e w1 ⟨g, rfl, h1, h2, h3, h4⟩
  have H3 := Lib.hid h3
  clear h3
  go_wp2_with fail
  go_ret
  exact ⟨g, rfl, h1, h2, fun S _ => XsAt_plain rfl rfl H3.out, h4⟩

set_option maxRecDepth 100000 in
theorem newXof_2 (kind : Int) (an ac : Option Addr) (nn cn nc cc : Nat) (N S : Bs) (w : World) (hk : kind % 5 = ((2 : Nat) : Int)) : Calls Try.prog 29 #[.int .i64 kind, .slice an nn cn, .slice ac nc cc] w (RetNX (xpOf 2 N S) w) := by
  have t0 : ((2 : Int) == 0) = false := by decide
  have t1 : ((2 : Int) == 1) = false := by decide
  have t3 : ((2 : Int) == 3) = false := by decide
  have t4 : ((2 : Int) == 4) = false := by decide
  have HK := Lib.hid hk
  clear hk
  go_enter Try.func29, Try.ntmps29
  go_wp2_with fail
  refine (place_nat kind 5 2 w (by decide) (by decide) HK.out).mono ?_
  rintro e w' ⟨rfl, rfl⟩
  go_wp2_with (first | (refine wpList_alloc_row rfl _ rfl _ zeroSX ?_; refine Hid.out ?_))
  show wpList _ _ _ _ _ _
  have D1 := newD_at w' 72 0 0 0 [Value.slice none 0 0]
  have f1 : Fr [] w' (w'.alloc (.cells ((newD 0 0 0).cells ++ [Value.slice none 0 0]).toArray 72)) := (Fr.refl _ _).alloc _
  have z1 : w'.heap.size < (w'.alloc (.cells ((newD 0 0 0).cells ++ [Value.slice none 0 0]).toArray 72)).heap.size := by simp
  generalize w'.alloc (.cells ((newD 0 0 0).cells ++ [Value.slice none 0 0]).toArray 72) = w1 at D1 f1 z1 ⊢
  have H1 := Lib.hid D1
  clear D1
  go_wp2_with fail
  go_ret
  refine ⟨w'.heap.size, rfl, Nat.le_refl _, z1, fun S _ => ⟨none, 0, ⟨rfl, Nat.le_refl _, by simp [maxLen], .inl rfl⟩, (fun y hy => by cases hy), .inr ⟨rfl, rfl, H1.out⟩⟩, f1⟩

theorem newXof_3 (kind : Int) (an ac : Option Addr) (nn cn nc cc : Nat) (N S : Bs) (w : World) (hk : kind % 5 = ((3 : Nat) : Int)) (hN : Sl w an nn cn N) (hS : Sl w ac nc cc S) (hnn : nn ≤ 140737488351232) (hnc : nc ≤ 140737488351232) : Calls Try.prog 29 #[.int .i64 kind, .slice an nn cn, .slice ac nc cc] w (RetNX (xpOf 3 N S) w) := by
  have t0 : ((3 : Int) == 0) = false := by decide
  have t1 : ((3 : Int) == 1) = false := by decide
  have t3 : ((3 : Int) == 3) = true := by decide
  have HK := Lib.hid hk
  have HN := Lib.hid hN
  have HS := Lib.hid hS
  clear hk hN hS
  go_enter Try.func29, Try.ntmps29
  go_wp2_with fail
  refine (place_nat kind 5 3 w (by decide) (by decide) HK.out).mono ?_
  rintro e w' ⟨rfl, rfl⟩
  go_wp2_with fail
  refine (copied_n an nn cn N w' HN.out (by omega)).mono ?_
  rintro e w1 ⟨a1, c1, rfl, o1, f1⟩
  have O1 := Lib.hid o1
  clear o1
  go_wp2_with fail
  refine (copied_n ac nc cc S w1 (HS.out.keep0 f1) (by omega)).mono ?_
  rintro e w2 ⟨a2, c2, rfl, o2, f2⟩
  have O2 := Lib.hid (o2.sl_at HS.out.len)
  have O1' := Lib.hid ((O1.out.sl_at HN.out.len).keep0 f2)
  clear o2 O1
  go_wp2_with fail
  refine (NewCSHAKE128_any w2 a1 a2 nn c1 nc c2 N S O1'.out O2.out hnn hnc).mono ?_
  rintro e w3 ⟨g, hg1, hg2, ⟨a, c, rfl, h1, h2, h3, h4⟩, f3⟩
  have H1 := Lib.hid (And.intro h1 (And.intro h2 (And.intro h3 h4)))
  clear h1 h2 h3 h4
  go_wp2_with fail
  go_ret
  have hz := f1.size
  have hz2 := f2.size
  refine ⟨g, rfl, by omega, hg2, fun S' hS' => ⟨a, c, H1.out.1, fun y hy hn => ⟨fun hm => ?_, (H1.out.2.1 y hy).2⟩, .inl H1.out.2.2.2⟩, (f1.trans f2).trans f3⟩
  rcases List.mem_cons.1 hm with e | hm
  · exact H1.out.2.2.1 y hy hn e
  · have := hS' _ hm
    have := (H1.out.2.1 y hy).1
    omega

theorem newXof_4 (kind : Int) (an ac : Option Addr) (nn cn nc cc : Nat) (N S : Bs) (w : World) (hk : kind % 5 = ((4 : Nat) : Int)) (hN : Sl w an nn cn N) (hS : Sl w ac nc cc S) (hnn : nn ≤ 140737488351232) (hnc : nc ≤ 140737488351232) : Calls Try.prog 29 #[.int .i64 kind, .slice an nn cn, .slice ac nc cc] w (RetNX (xpOf 4 N S) w) := by
  have t0 : ((4 : Int) == 0) = false := by decide
  have t1 : ((4 : Int) == 1) = false := by decide
  have t3 : ((4 : Int) == 3) = false := by decide
  have t4 : ((4 : Int) == 4) = true := by decide
  have HK := Lib.hid hk
  have HN := Lib.hid hN
  have HS := Lib.hid hS
  clear hk hN hS
  go_enter Try.func29, Try.ntmps29
  go_wp2_with fail
  refine (place_nat kind 5 4 w (by decide) (by decide) HK.out).mono ?_
  rintro e w' ⟨rfl, rfl⟩
  go_wp2_with fail
  refine (copied_n an nn cn N w' HN.out (by omega)).mono ?_
  rintro e w1 ⟨a1, c1, rfl, o1, f1⟩
  have O1 := Lib.hid o1
  clear o1
  go_wp2_with fail
  refine (copied_n ac nc cc S w1 (HS.out.keep0 f1) (by omega)).mono ?_
  rintro e w2 ⟨a2, c2, rfl, o2, f2⟩
  have O2 := Lib.hid (o2.sl_at HS.out.len)
  have O1' := Lib.hid ((O1.out.sl_at HN.out.len).keep0 f2)
  clear o2 O1
  go_wp2_with fail
  refine (NewCSHAKE256_any w2 a1 a2 nn c1 nc c2 N S O1'.out O2.out hnn hnc).mono ?_
  rintro e w3 ⟨g, hg1, hg2, ⟨a, c, rfl, h1, h2, h3, h4⟩, f3⟩
  have H1 := Lib.hid (And.intro h1 (And.intro h2 (And.intro h3 h4)))
  clear h1 h2 h3 h4
  go_wp2_with fail
  go_ret
  have hz := f1.size
  have hz2 := f2.size
  refine ⟨g, rfl, by omega, hg2, fun S' hS' => ⟨a, c, H1.out.1, fun y hy hn => ⟨fun hm => ?_, (H1.out.2.1 y hy).2⟩, .inl H1.out.2.2.2⟩, (f1.trans f2).trans f3⟩
  rcases List.mem_cons.1 hm with e | hm
  · exact H1.out.2.2.1 y hy hn e
  · have := hS' _ hm
    have := (H1.out.2.1 y hy).1
    omega

theorem newXof_any (kind : Int) (an ac : Option Addr) (nn cn nc cc : Nat) (N S : Bs) (w : World) (hN : Sl w an nn cn N) (hS : Sl w ac nc cc S) (hnn : nn ≤ 140737488351232) (hnc : nc ≤ 140737488351232) : Calls Try.prog 29 #[.int .i64 kind, .slice an nn cn, .slice ac nc cc] w (RetNX (xpOf (k5 kind) N S) w) := by
  have h := k5_lt kind
  have e := k5_int kind
  obtain h0 | h0 | h0 | h0 | h0 : k5 kind = 0 ∨ k5 kind = 1 ∨ k5 kind = 2 ∨ k5 kind = 3 ∨ k5 kind = 4 := by omega
  · rw [h0] at e ⊢; exact newXof_0 kind an ac nn cn nc cc N S w e
  · rw [h0] at e ⊢; exact newXof_1 kind an ac nn cn nc cc N S w e
  · rw [h0] at e ⊢; exact newXof_2 kind an ac nn cn nc cc N S w e
  · rw [h0] at e ⊢; exact newXof_3 kind an ac nn cn nc cc N S w e hN hS hnn hnc
  · rw [h0] at e ⊢; exact newXof_4 kind an ac nn cn nc cc N S w e hN hS hnn hnc

set_option maxRecDepth 100000 in
theorem xdReset_any (w : World) (b T : Nat) (ext : List Value) (d : Dg) (h : DgAt w b T ext d) : Calls Try.prog 76 #[.pointer (some ⟨b, 0, none⟩)] w (RetD (.tuple #[]) b T ext { d with a := List.replicate 200 0, n := 0, st := 0 } w) := by
  have HD := Lib.hid h
  clear h
  go_enter Try.func76, Try.ntmps76
  go_wp2_with (refine wpList_clear_bytes rfl _ 22 5 rfl Try.underlying22 (zeroU8 _) HD.out _ rfl ?_)
  intro w1 D1 f1
  have q1 := D1.cst
  have q2 := D1.fz 204
  have D2 : DgAt (w1.setCell ⟨b, 204, none⟩ (.int .i64 0)) b T ext _ := D1.setSt 0
  have q3 := D2.cn
  have q4 := D2.fz 200
  have D3 : DgAt ((w1.setCell ⟨b, 204, none⟩ (.int .i64 0)).setCell ⟨b, 200, none⟩ (.int .i64 0)) b T ext _ := D2.setN 0
  have H3 := Lib.hid D3
  clear D1 D2 D3 HD
  go_wp2_with fail
  go_end0
  exact ⟨rfl, H3.out, (f1.setCell _ _ (.inr (by simp))).setCell _ _ (.inr (by simp))⟩
set_option maxHeartbeats 600000 in
theorem fReset_any (w : World) (b T : Nat) (ai : Option Addr) (ci : Nat) (p : XP) (hp : p.Ok) (hh : p.Hd) (d : Dg) (h : DgAt w b T [.slice ai p.ini.length ci] d) (h1 : d.rate = p.r) (h2 : d.ds = p.ds) (h3 : d.out = p.o) (hS : Sl w ai p.ini.length ci p.ini) (hb : ∀ y, ai = some y → p.ini.length ≠ 0 → y.block ≠ b) :
    Calls Try.prog 63 #[.pointer (some ⟨b, 0, none⟩)] w (RetD (.tuple #[]) b T [.slice ai p.ini.length ci] (absorb (newD p.r p.o p.ds) p.hd) w) := by
  have E := Lib.hid (reset_eqX d p h1 h2 h3)
  have HH := Lib.hid hh
  have HP := Lib.hid hp
  have HS := Lib.hid hS
  have HB := Lib.hid hb
  have hil := hh.il
  clear h1 h2 h3 hS hb
  obtain ⟨m, hm⟩ : ∃ m, m = p.ini.length := ⟨_, rfl⟩
  rw [← hm] at h HS HB hil ⊢
  have HM := Lib.hid hm
  clear hm
  go_enter Try.func63, Try.ntmps63
  go_wp2_with fail
  refine (xdReset_any w b T _ d h).mono ?_
  rintro e w1 ⟨rfl, D1, f1⟩
  rw [E.out] at D1
  have q1 := D1.cext rfl
  have S1 := Lib.hid (HS.out.keep f1 (fun y hy hn => by simp; exact HB.out y hy hn))
  have HD1 := Lib.hid D1
  clear D1 h HS
  by_cases hz : m = 0
  · subst hz
    go_wp2_with fail
    go_end0
    refine ⟨rfl, ?_, f1⟩
    rw [HH.out.h0 HM.out.symm, absorb_nil]
    exact HD1.out
  · have t1 : ((m : Int) != 0) = true := by simp; omega
    have t2 : ((m : Int) == 0) = false := by simp; omega
    go_wp2_with fail
    have d1 : DgAt w1.drew b T [.slice ai m ci] (newD p.r p.o p.ds) := HD1.out
    have q2 := d1.cext rfl
    have q3 : w1.drew.cell? ⟨b, 201, none⟩ = some (.int .i64 (p.r : Int)) := d1.crate
    have S2 : Hid (Sl w1.drew ai m ci p.ini) := S1.out.keep0 (Fr.refl _ _).drew
    have hok := newD_ok p.r p.o p.ds hp.rpos hp.rle
    have hrl := hp.rle
    have hrp := hp.rpos
    have HD2 := Lib.hid d1
    have HOK := Lib.hid hok
    clear d1 hok hp hh
    go_region_held3 (fun w' => w'.cell? ⟨b, 205, none⟩ = some (.slice ai m ci) ∧ w'.cell? ⟨b, 201, none⟩ = some (.int .i64 (p.r : Int)) ∧ True)
      (first | (exact ⟨q2, q3, trivial⟩) | (exact ⟨q7, q8, trivial⟩) | (go_keep))
      (first | (go_at_call 77; refine (bytepadWrite_any w1.drew b T _ (newD p.r p.o p.ds) ai m ci p.ini p.r HD2.out HOK.out rfl S2.out HB.out hrp hrl (by omega)).mono ?_; rintro e w6 ⟨rfl, D6, f6⟩; have q7 := D6.cext rfl; have q8 : w6.cell? ⟨b, 201, none⟩ = some (.int .i64 (p.r : Int)) := by rw [D6.crate, (absorb_ok HOK.out _).2.1]; rfl))
    have HD6 := Lib.hid D6
    clear q2 q3 q7 q8 D6
    go_wp2_with fail
    go_end0
    refine ⟨rfl, ?_, f1.trans ((Fr.refl [b] _).drew.trans f6)⟩
    rw [HH.out.h1 (by rw [← HM.out]; exact hz)]
    exact HD6.out
theorem shkReset_any (w : World) (b : Nat) (p : XP) (S : List Nat) (x : XS) (hp : p.Ok) (hh : p.Hd) (hbS : b ∈ S) (h : XsAt w b 72 p S x) :
    Calls Try.prog 44 #[.pointer (some ⟨b, 0, none⟩)] w (RetS (.tuple #[]) b p S ⟨p.hd, none⟩ w) := by
  go_enter Try.func44, Try.ntmps44
  go_wp2_with fail
  refine (xinit_any w b p S _ hp hbS h).mono ?_
  rintro e w1 ⟨rfl, ⟨ai, ci, h1, h2, D1⟩, f1⟩
  have hok := Lib.hid (hp.any x)
  have H1 := Lib.hid (And.intro h1 h2)
  have hb : ∀ y, ai = some y → p.ini.length ≠ 0 → y.block ≠ b := fun y hy hn e => (h2 y hy hn).1 (e ▸ hbS)
  clear h1 h2
  go_wp2_with fail
  refine (fReset_any w1 b 72 ai ci p hp hh _ D1 hok.out.2.1 hok.out.2.2.1 hok.out.2.2.2.1 H1.out.1 hb).mono ?_
  rintro e w2 ⟨rfl, D2, f2⟩
  have HD2 := Lib.hid D2
  clear D2 D1
  go_wp2_with fail
  go_end0
  exact ⟨rfl, ⟨ai, ci, H1.out.1.keep f2 (fun y hy hn => by simp; exact hb y hy hn), H1.out.2, .inl HD2.out⟩, f1.trans f2⟩

end Go.Proofs.Ytkijnpjefccepaa
end
