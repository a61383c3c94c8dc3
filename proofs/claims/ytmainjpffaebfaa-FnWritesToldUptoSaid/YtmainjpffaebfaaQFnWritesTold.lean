/- FnWritesTold: for every input of bulk at most 1048576 the law returns true, and each argument reads afterwards as it read before. The bound on the bulk is the given one. -/
import Derived.Test.YtmainjpffaebfaaGA
import Derived.Test.YtmainjpffaebfaaGB
import Derived.Test.YtmainjpffaebfaaGC
import Derived.Test.YtmainjpffaebfaaGG
import Derived.Test.YtmainjpffaebfaaGH
import Derived.Test.YtmainjpffaebfaaGN
import Derived.Test.YtmainjpffaebfaaGS
import Derived.Test.YtmainjpffaebfaaGT
import Derived.Test.YtmainjpffaebfaaGU
import Derived.Test.YtmainjpffaebfaaGP
import Derived.Test.YtmainjpffaebfaaGI
import Derived.Test.YtmainjpffaebfaaGK
import Derived.Test.YtmainjpffaebfaaGV
import Derived.Test.YtmainjpffaebfaaGL
import Derived.Test.YtmainjpffaebfaaGJ
import Derived.Test.YtmainjpffaebfaaGX
import Derived.Test.YtmainjpffaebfaaGY
import Derived.Test.YtmainjpffaebfaaGXA
import Derived.Test.YtmainjpffaebfaaGXB
import Derived.Test.YtmainjpffaebfaaGXI
import Derived.Test.YtmainjpffaebfaaGXJ
import Derived.Test.YtmainjpffaebfaaGXC
import Derived.Test.YtmainjpffaebfaaGXK
import Derived.Test.YtmainjpffaebfaaGXD
import Derived.Test.YtmainjpffaebfaaGXG
import Derived.Test.YtmainjpffaebfaaGXF
import Derived.Test.YtmainjpffaebfaaGXH
import Derived.Test.YtmainjpffaebfaaGXW
import Derived.Test.YtmainjpffaebfaaGXZ
import Derived.Below
import Derived.ChangeOld
import Derived.Deep.RegionHeld3
import Derived.ShutString
section
namespace Go.Proofs.Ytmainjpffaebfaa
open Go.ChangeShapes Go.WideShapes Go.ChangeAt Go.RowKit Go.Sha
theorem wrR_get (ps : List Bs) (i : Nat) (h : i < ps.length) : (wrR ps).getD i ⟨0, [], false, false⟩ = ⟨(ps.getD i []).length, ps.getD i [], true, false⟩ := by
  simp [wrR, List.getD_eq_getElem?_getD, h]
theorem wrs_get (ps : List Bs) (i : Nat) (h : i < ps.length) : (wrs ps).getD i ⟨0, 0, 0, []⟩ = ⟨0, 0, 0, ps.getD i []⟩ := by
  simp [wrs, List.getD_eq_getElem?_getD, h]
theorem ActsAt.at3 {w : World} {a : Option Addr} {n c : Nat} {xs : List Actn} (h : ActsAt w a n c xs) {i : Nat} (hi : i < n) : ∃ b o ad cd, a = some ⟨b, o, none⟩ ∧ w.cell? ⟨b, o + i * 4 + 3, none⟩ = some (.slice ad (xs.getD i ⟨0, 0, 0, []⟩).data.length cd) := by
  rcases h.cel with h0 | ⟨b, o, ha, hc⟩
  · omega
  · obtain ⟨ad, nd, cd, h1, h2, h3, h4, h5, _⟩ := hc i hi
    rw [show o + 4 * i = o + i * 4 by omega] at h4
    exact ⟨b, o, ad, cd, ha, by rw [h5.len]; exact h4⟩
def WtRel (w : World) (M : Nat) (iv : Value) (wr : World) : Prop := ∃ i : Nat, i ≤ M ∧ iv = .int .i64 ((i : Nat) : Int) ∧ Fr [] w wr
set_option maxRecDepth 100000 in
set_option maxHeartbeats 4000000 in
theorem fnWritesTold_walk (kind : Int) (pdata : Option Addr) (ndata cdata : Nat) (data : Bs) (pcuts : Option Addr) (ncuts ccuts : Nat) (cuts : Bs) (w : World) (hdata : Sl w pdata ndata cdata data) (hndata : ndata ≤ 1048576) (hcuts : Sl w pcuts ncuts ccuts cuts) (hncuts : ncuts ≤ 1048576) :
    Calls Try.prog 8 #[.int .i64 kind, .slice pdata ndata cdata, .slice pcuts ncuts ccuts] w (RetB true w) := by
  have H_data := Lib.hid hdata.len
  have H0data := Lib.hid hdata
  clear hdata
  have H_cuts := Lib.hid hcuts.len
  have H0cuts := Lib.hid hcuts
  clear hcuts
  obtain ⟨q, hq⟩ : ∃ q, q = xpOf (k5 kind) [] [] := ⟨_, rfl⟩
  have HQ := Lib.hid hq
  obtain ⟨ps, hps⟩ : ∃ ps, ps = pcs data cuts := ⟨_, rfl⟩
  obtain ⟨M, hM⟩ : ∃ M, M = ncuts + 1 := ⟨_, rfl⟩
  have hpl : Hid (ps.length = M) := by show _ = _; rw [hps, pcs_len, H_cuts.out, hM]
  have hpb : Hid (∀ x ∈ wrs ps, x.data.length ≤ 140737488351232) := fun x hx => by
    simp only [wrs, List.mem_map] at hx
    obtain ⟨y, hy, rfl⟩ := hx
    rw [hps] at hy
    have := pcs_le _ _ _ hy
    rw [H_data.out] at this
    show y.length ≤ _
    omega
  have PC : Hid (∀ u, Sl u pdata ndata cdata data → Sl u pcuts ncuts ccuts cuts → Calls Try.prog 23 #[.slice pdata ndata cdata, .slice pcuts ncuts ccuts] u fun e w' => ∃ a c vs, e = .returned (.slice a M c) ∧ AsI 27 w' u.heap.size a M c (wrs ps) vs ∧ Fr [] u w') := fun u h1 h2 => by
    rw [hM, hps]
    exact pieces_any u pdata pcuts ndata cdata ncuts ccuts data cuts h1 h2 (by omega) (by omega)
  have bM : M ≤ 1048577 := by omega
  clear hq hps hM
  go_enter Try.func8, Try.ntmps8
  go_wp2_with fail
  refine (PC.out w H0data.out H0cuts.out).mono ?_
  rintro e w1 ⟨a1, c1, v1, rfl, A1, f1⟩
  have HA := Lib.hid A1.acts
  have hac := A1.acts.cap
  have ham := A1.acts.max
  unfold maxLen at ham
  clear A1
  go_wp2_with fail
  refine (runHashes_any w1 kind a1 M c1 _ HA.out (by omega)).mono ?_
  rintro e w2 ⟨a2, c2, v2, rfl, B2, f2⟩
  rw [runH_wrs] at B2
  have HX := Lib.hid (RsI.read B2)
  have F2 := f1.trans f2
  have HA2 := Lib.hid (HA.out.keep f2 (by simp))
  clear B2 HA f1 f2
  go_wp2_with fail
  refine (PC.out w2 (H0data.out.keep0 F2) (H0cuts.out.keep0 F2)).mono ?_
  rintro e w3 ⟨a3, c3, v3, rfl, A3, f3⟩
  have HA3 := Lib.hid A3.acts
  clear A3
  go_wp2_with fail
  refine (runPlain_any kind q HQ.out w3 a3 M c3 _ HA3.out (by omega) hpb.out).mono ?_
  rintro e w4 ⟨a4, c4, v4, rfl, B4, f4⟩
  have hl4 : (runX q (wrs ps)).length = M := by rw [runX_wrs, wrR_len, hpl.out]
  rw [hl4] at B4 ⊢
  rw [runX_wrs] at B4
  have HY := Lib.hid (RsI.read B4)
  have F4 := (F2.trans f3).trans f4
  have HX4 := Lib.hid (HX.out.keep0 (f3.trans f4))
  have HA4 := Lib.hid (HA2.out.keep (f3.trans f4) (by simp))
  clear B4 hl4 HA3 HX HA2 F2 f3 f4
  have hxc := HX4.out.cap
  have hxm := HX4.out.max
  have hyc := HY.out.cap
  have hym := HY.out.max
  unfold maxLen at hxm hym
  have tM : ((M : Int) != (M : Int)) = false := by simp
  go_wp2_with fail
  go_loopw [36] (fun iv wr => WtRel w4 M iv wr) (fun iv _ => M - (intOf iv).toNat)
  case atStart => exact ⟨0, by omega, rfl, Fr.refl _ _⟩
  case round =>
    obtain ⟨i, hi, rfl, G0⟩ := hrel
    by_cases hlt : i < M
    · obtain ⟨b2, o2, ad2, nd2, cd2, rfl, q2, _⟩ := RsR.at4 (HX4.out.keep0 G0) hlt
      obtain ⟨b4, o4, ad4, nd4, cd4, rfl, q4, _⟩ := RsR.at4 (HY.out.keep0 G0) hlt
      obtain ⟨b1, o1, ad1, cd1, rfl, q1⟩ := ActsAt.at3 (HA4.out.keep G0 (by simp)) hlt
      rw [wrR_get ps i (by rw [hpl.out]; exact hlt)] at q2 q4
      rw [wrs_get ps i (by rw [hpl.out]; exact hlt)] at q1
      obtain ⟨Lg, hLg⟩ : ∃ Lg, Lg = (ps.getD i []).length := ⟨_, rfl⟩
      simp only [← hLg] at q1 q2 q4
      have A0 := q2.keep (Fr.refl [] _).drew
      have B0 := q4.keep (Fr.refl [] _).drew
      have C0 : wr.drew.cell? ⟨b1, o1 + i * 4 + 3, none⟩ = some (.slice ad1 Lg cd1) := q1
      have tL : ((Lg : Int) != (Lg : Int)) = false := by simp
      clear q1 q2 q4 hLg
      go_wp2_with fail
      go_region_held3 (fun w' => w'.cell? ⟨b2, o2 + i * 4, none⟩ = some (.int .i64 (Lg : Int)) ∧ w'.cell? ⟨b2, o2 + i * 4 + 2, none⟩ = some (.bool true) ∧ w'.cell? ⟨b4, o4 + i * 4, none⟩ = some (.int .i64 (Lg : Int)) ∧ w'.cell? ⟨b4, o4 + i * 4 + 2, none⟩ = some (.bool true) ∧ w'.cell? ⟨b1, o1 + i * 4 + 3, none⟩ = some (.slice ad1 Lg cd1))
        (exact ⟨A0.c0, A0.c2, B0.c0, B0.c2, C0⟩)
        (fail)
      go_wp2_with fail
      exact ⟨⟨i + 1, by omega, by simp, G0.drew⟩, by simp [intOf]; omega⟩
    · obtain rfl : i = M := by omega
      go_wp2_with fail
      go_ret
      exact ⟨rfl, F4.trans G0⟩
end Go.Proofs.Ytmainjpffaebfaa
end

section
namespace Go.Proofs.Ytmainjpffaebfaa.rFnWritesTold
open Go.ChangeShapes Go.WideShapes Go.ChangeAt Go.RowKit Go.Sha
set_option linter.unusedVariables false

theorem own : ownKnob Try.prog.godebug = none := by kernel_rfl
theorem laidOut : laidOutB Try.prog = true := by kernel_rfl

set_option maxRecDepth 100000 in
theorem lifted (os : Os) (started : os.Started) (H : Type) (enc : TypeId × Value → H) (F : Stop.Interp) :
    ReturnsInHanded {} Try.checked os 8 .any ((Rows.OpenSpec.upto Rows.fnWritesToldSpec).pre6 enc Try.prog Try.f8 Rows.fnWritesToldUptoRow.domain false) (((Rows.OpenSpec.upto Rows.fnWritesToldSpec).at F).post enc Try.prog Try.f8 false true false false) := by
  refine returnsInHanded_of_cond (C := Try.checked) (s := Rows.OpenSpec.upto Rows.fnWritesToldSpec) (k := Rows.uptoSmall) rfl own started (by kernel_rfl) Try.func8
    (OpenSpec.witness (enc := enc) (C := Try.checked) (s := Rows.OpenSpec.upto Rows.fnWritesToldSpec) (k := Rows.uptoSmall) rfl false ⟨#[], #[.int .i64 0, .slice none 0 0, .slice none 0 0], []⟩ 8 (by kernel_rfl) (by kernel_rfl) (by kernel_rfl)
      (x := ([.lit (.int .i64 0), .nil, .nil], [], [])) (by kernel_rfl) rfl (by kernel_rfl)) ?_
  intro W base args ds gs before hval0 hW hcnd hk _
  have hval : ∀ (j : Nat) t v, Try.f8.params[j]? = some t → args[j]? = some v → Value.okWide Try.prog W .any base t v := hval0
  have hW' := hW
  obtain ⟨p, q, hA0, hV, rfl, hfz, hnd⟩ := hW
  have hA : DataW.TrodAll enc Try.prog W 0 (fun _ => true) true Try.f8.params.toList args.toList ds p := hA0
  rw [Try.params8] at hA hval
  obtain ⟨v0, vs0, d0, ds0, p0, q0, hargs, rfl, rfl, h0, r0⟩ := trodAll_cons hA
  obtain ⟨v1, vs1, d1, ds1, p1, q1, rfl, rfl, rfl, h1, r1⟩ := trodAll_cons r0
  obtain ⟨v2, vs2, d2, ds2, p2, q2, rfl, rfl, rfl, h2, r2⟩ := trodAll_cons r1
  obtain ⟨rfl, rfl, rfl⟩ := trodAll_nil r2
  obtain rfl : args = #[v0, v1, v2] := by cases args; simp_all
  obtain ⟨rfl, rfl⟩ := trodVars_none hV
  simp only [List.append_nil] at hk
  have hbk : Rows.uptoBulkAll [d0, d1, d2] ≤ 1048576 := of_decide_eq_true hk
  simp only [Rows.uptoBulkAll] at hbk
  obtain ⟨a0, rfl, rfl, rfl, w0⟩ := open_int Try.underlying3 (hval 0 3 v0 rfl rfl) h0
  obtain ⟨a1, len1, cap1, rfl⟩ := okWide_slice Try.underlying22 (hval 1 22 v1 rfl rfl)
  have k1 := h1
  have lt1 : ∀ x ∈ p1, x.block < W.heap.size := by obtain ⟨m, hm⟩ := k1; exact DataW.trod_lt m _ _ _ hm
  obtain ⟨fuel1, hf1⟩ := h1
  obtain ⟨l1, s1, dl1⟩ := open_bytes Try.underlying22 Try.underlying5 (by kernel_rfl) hf1
  have b1 := DLen_bulk dl1
  obtain ⟨a2, len2, cap2, rfl⟩ := okWide_slice Try.underlying22 (hval 2 22 v2 rfl rfl)
  have k2 := h2
  have lt2 : ∀ x ∈ p2, x.block < W.heap.size := by obtain ⟨m, hm⟩ := k2; exact DataW.trod_lt m _ _ _ hm
  obtain ⟨fuel2, hf2⟩ := h2
  obtain ⟨l2, s2, dl2⟩ := open_bytes Try.underlying22 Try.underlying5 (by kernel_rfl) hf2
  have b2 := DLen_bulk dl2
  simp only [Rows.uptoBulk] at hbk
  clear hA0 hval0
  refine (fnWritesTold_walk a0 a1 len1 cap1 l1 a2 len2 cap2 l2 W s1 (by omega) s2 (by omega)).mono fun e W' ⟨he, hfr⟩ => ?_
  have bel := hfr.below
  subst he
  exact ⟨_, rfl, _, _, _, [], _, [], hW', trodAll_mk1 (shut_bool Try.underlying4 _), (trodAll_cons_mk (shut_int Try.underlying3 w0) (trodAll_cons_mk (Below.trod laidOut (by kernel_rfl) (of_decide_eq_true (by kernel_rfl)) k1 bel lt1) (trodAll_cons_mk (Below.trod laidOut (by kernel_rfl) (of_decide_eq_true (by kernel_rfl)) k2 bel lt2) trodAll_mk0))), rfl, bel.frame _, fun h => by cases h⟩

theorem proved : Rows.FnWritesToldUptoSaid :=
  OpenClaim.holds_of_cond 8 Try.f8 rfl rfl rfl rfl rfl rfl rfl ⟨rfl, rfl, rfl, rfl, rfl⟩ rfl rfl rfl rfl rfl (by kernel_rfl) Try.func8 (by kernel_rfl)
    (of_decide_eq_true (by kernel_rfl)) (by unfold Func.isWrapper; first | (rw [if_pos (by decide +kernel)]; kernel_rfl) | (rw [if_neg (by decide +kernel)]; exact ⟨rfl, rfl⟩))
    (fun os started H enc _ F => lifted os started H enc F)
#print axioms proved
end Go.Proofs.Ytmainjpffaebfaa.rFnWritesTold
namespace Go.Proofs.Ytmainjpffaebfaa
theorem fnWritesTold_holds : Rows.FnWritesToldUptoSaid := rFnWritesTold.proved
end Go.Proofs.Ytmainjpffaebfaa
end
