/- FnArguments: for every input the law returns true, and each argument reads afterwards as it read before. No condition. -/
import Derived.Test.YtmainjpffaebfaaGreatGA
import Derived.Test.YtmainjpffaebfaaGreatGB
import Derived.Test.YtmainjpffaebfaaGreatGC
import Derived.Test.YtmainjpffaebfaaGreatGG
import Derived.Test.YtmainjpffaebfaaGreatGH
import Derived.Test.YtmainjpffaebfaaGreatGN
import Derived.Test.YtmainjpffaebfaaGreatGP
import Derived.Test.YtmainjpffaebfaaGreatGI
import Derived.Test.YtmainjpffaebfaaGreatGK
import Derived.Test.YtmainjpffaebfaaGreatGL
import Derived.Test.YtmainjpffaebfaaGreatGJ
import Derived.Test.YtmainjpffaebfaaGreatGX
import Derived.Test.YtmainjpffaebfaaGreatGY
import Derived.Test.YtmainjpffaebfaaGreatGXA
import Derived.Test.YtmainjpffaebfaaGreatGXB
import Derived.Test.YtmainjpffaebfaaGreatGXI
import Derived.Test.YtmainjpffaebfaaGreatGXJ
import Derived.Test.YtmainjpffaebfaaGreatGXC
import Derived.Test.YtmainjpffaebfaaGreatGXK
import Derived.Test.YtmainjpffaebfaaGreatGXD
import Derived.Test.YtmainjpffaebfaaGreatGXG
import Derived.Test.YtmainjpffaebfaaGreatGXF
import Derived.Test.YtmainjpffaebfaaGreatGXH
import Derived.Test.YtmainjpffaebfaaGreatGXZ
import Derived.Below
import Derived.ChangeOld
import Derived.ShutString
section
namespace Go.Proofs.YtmainjpffaebfaaGreat
open Go.ChangeShapes Go.WideShapes Go.ChangeAt Go.RowKit Go.Sha
set_option maxRecDepth 100000 in
set_option maxHeartbeats 4000000 in
theorem fnArguments_walk (kind : Int) (pdata : Option Addr) (ndata cdata : Nat) (data : Bs) (w : World) (hdata : Sl w pdata ndata cdata data) (hndata : ndata ≤ 140737488351232) :
    Calls Tryz.prog 3 #[.int .i64 kind, .slice pdata ndata cdata] w (RetB true w) := by
  have H_data := Lib.hid hdata.len
  have H0 := Lib.hid hdata
  obtain ⟨q, hq⟩ : ∃ q, q = xpOf (k5 kind) [] [] := ⟨_, rfl⟩
  have HQ := Lib.hid hq
  obtain ⟨r, hr⟩ : ∃ r, r = rOf (k5 kind) := ⟨_, rfl⟩
  obtain ⟨o, ho⟩ : ∃ o, o = oOf (k5 kind) := ⟨_, rfl⟩
  have HRO := Lib.hid (And.intro hr ho)
  have hxr : Hid (runX q [⟨0, 0, 0, data⟩] = [⟨data.length, data, true, false⟩]) := by show _ = _; rw [hq]; rfl
  have hhr : Hid (runH r o [⟨0, 0, 0, data⟩] = [⟨data.length, data, true, false⟩]) := by show _ = _; rfl
  clear hdata hq hr ho
  go_enter Tryz.func3, Tryz.ntmps3
  go_wp2_with fail
  refine (lwrite_any 0 _ ndata _ data _ H0.out (by omega)).mono ?_
  rintro e w1 ⟨a1, c1, rfl, O1, f1⟩
  have P1 := Lib.hid (O1.sl_at H_data.out)
  have g1 : Fr [] w1 (w1.alloc (.cells #[.int .i64 0, .int .i64 0, .int .i64 0, .slice a1 ndata c1] 26)) := (Fr.refl _ _).alloc _
  have A1 : Hid (ActsAt (w1.alloc (.cells #[.int .i64 0, .int .i64 0, .int .i64 0, .slice a1 ndata c1] 26)) (some ⟨w1.heap.size, 0, none⟩) 1 1 (([(⟨0, 0, 0, data⟩, (a1, ndata, c1))] : List (Actn × (Option Addr × Nat × Nat))).map (·.1))) := ActsAt.of_list [(⟨0, 0, 0, data⟩, (a1, ndata, c1))] (Go.heap_alloc_new w1 _) (fun p hp => by
    simp only [List.mem_cons, List.not_mem_nil, or_false] at hp
    subst hp
    exact ⟨P1.out.keep0 g1, by simp only; omega⟩) (by simp [maxLen])
  have F1 := f1.trans g1
  clear O1 f1
  go_wp2_with fail
  generalize w1.alloc (.cells #[.int .i64 0, .int .i64 0, .int .i64 0, .slice a1 ndata c1] 26) = wA at A1 F1 g1 ⊢
  refine (runHashes_any wA kind _ 1 1 _ A1.out (by omega)).mono ?_
  rintro e w2 ⟨a2, c2, v2, rfl, B2, f2⟩
  have B2' : RsI 43 5 w2 wA.heap.size [] a2 1 c2 (runH r o [⟨0, 0, 0, data⟩]) v2 := by rw [HRO.out.1, HRO.out.2]; exact B2
  rw [hhr.out] at B2'
  have HX := Lib.hid B2'
  have F2 := F1.trans f2
  clear B2 B2' A1 P1 F1 f2 g1
  go_wp2_with fail
  refine (lwrite_any 0 _ ndata _ data _ (H0.out.keep0 F2) (by omega)).mono ?_
  rintro e w3 ⟨a3, c3, rfl, O3, f3⟩
  have P3 := Lib.hid (O3.sl_at H_data.out)
  have g3 : Fr [] w3 (w3.alloc (.cells #[.int .i64 0, .int .i64 0, .int .i64 0, .slice a3 ndata c3] 26)) := (Fr.refl _ _).alloc _
  have A3 : Hid (ActsAt (w3.alloc (.cells #[.int .i64 0, .int .i64 0, .int .i64 0, .slice a3 ndata c3] 26)) (some ⟨w3.heap.size, 0, none⟩) 1 1 (([(⟨0, 0, 0, data⟩, (a3, ndata, c3))] : List (Actn × (Option Addr × Nat × Nat))).map (·.1))) := ActsAt.of_list [(⟨0, 0, 0, data⟩, (a3, ndata, c3))] (Go.heap_alloc_new w3 _) (fun p hp => by
    simp only [List.mem_cons, List.not_mem_nil, or_false] at hp
    subst hp
    exact ⟨P3.out.keep0 g3, by simp only; omega⟩) (by simp [maxLen])
  have f3' := f3.trans g3
  clear O3 f3
  go_wp2_with fail
  generalize w3.alloc (.cells #[.int .i64 0, .int .i64 0, .int .i64 0, .slice a3 ndata c3] 26) = wB at A3 f3' g3 ⊢
  refine (runPlain_any kind q HQ.out wB _ 1 1 _ A3.out (by omega) (fun x hx => by
    simp only [List.map_cons, List.map_nil, List.mem_cons, List.not_mem_nil, or_false] at hx
    subst hx
    show data.length ≤ _
    rw [H_data.out]
    omega)).mono ?_
  rintro e w4 ⟨a4, c4, v4, rfl, B4, f4⟩
  have B4' : RsI 43 5 w4 wB.heap.size [] a4 (runX q [⟨0, 0, 0, data⟩]).length c4 (runX q [⟨0, 0, 0, data⟩]) v4 := B4
  rw [hxr.out] at B4'
  have HY : Hid (RsI 43 5 w4 wB.heap.size [] a4 1 c4 [⟨data.length, data, true, false⟩] v4) := B4'
  have F4 := (F2.trans f3').trans f4
  have HX4 := Lib.hid (HX.out.keep (S' := []) (f3'.trans f4) (by simp))
  have el : (runX q [⟨0, 0, 0, data⟩]).length = 1 := by rw [hxr.out]; rfl
  have el' : (runX q (List.map (fun x => x.1) ([(⟨0, 0, 0, data⟩, (a3, ndata, c3))] : List (Actn × (Option Addr × Nat × Nat))))).length = 1 := el
  rw [el']
  clear B4 B4' A3 P3 f3' f4 g3 HX F2 el el'
  go_wp2_with fail
  refine (own_n pdata ndata cdata data _ (H0.out.keep0 F4) (by omega)).mono ?_
  rintro e w5 ⟨a5, c5, rfl, O5, f5⟩
  have S5 := Lib.hid (O5.sl_at H_data.out)
  have F5 := F4.trans f5
  have HX5 := Lib.hid (HX4.out.keep (S' := []) f5 (by simp))
  have HY5 := Lib.hid (HY.out.keep (S' := []) f5 (by simp))
  clear O5 f5 F4 HX4 HY
  go_wp2_with fail
  refine (own_n pdata ndata cdata data _ (H0.out.keep0 F5) (by omega)).mono ?_
  rintro e w6 ⟨a6, c6, rfl, O6, f6⟩
  have S6 := Lib.hid (O6.sl_at H_data.out)
  have F6 := F5.trans f6
  have HX6 := Lib.hid (HX5.out.keep (S' := []) f6 (by simp))
  have HY6 := Lib.hid (HY5.out.keep (S' := []) f6 (by simp))
  have S56 := Lib.hid (S5.out.keep0 f6)
  clear O6 f6 F5 HX5 HY5 S5
  go_wp2_with fail
  refine (implSum256_any w6 a5 ndata c5 data S56.out).mono ?_
  rintro e w7 ⟨g7, rfl, _, B7, f7⟩
  have F7 := F6.trans f7
  have HX7 := Lib.hid (HX6.out.keep (S' := []) f7 (by simp))
  have HY7 := Lib.hid (HY6.out.keep (S' := []) f7 (by simp))
  have S57 := Lib.hid (S56.out.keep0 f7)
  have S67 := Lib.hid (S6.out.keep0 f7)
  clear B7 f7 F6 HX6 HY6 S56 S6
  go_wp2_with fail
  refine (implSHAKE128_any w7 a6 ndata c6 data S67.out 1 (by decide)).mono ?_
  rintro e w8 ⟨a8, c8, rfl, O8, f8⟩
  have F8 := F7.trans f8
  have HX8 := Lib.hid (HX7.out.keep (S' := []) f8 (by simp))
  have HY8 := Lib.hid (HY7.out.keep (S' := []) f8 (by simp))
  have S58 := Lib.hid (S57.out.keep0 f8)
  have S68 := Lib.hid (S67.out.keep0 f8)
  clear O8 f8 F7 HX7 HY7 S57 S67
  go_wp2_with fail
  refine (tells_t w8 _ [] a2 1 c2 _ v2 0 _ _ _ data HX8.out (by decide) (H0.out.keep0 F8) rfl).mono ?_
  rintro e u1 ⟨rfl, h1⟩
  have HY9 := Lib.hid (HY8.out.keep (S' := []) h1 (by simp))
  have F9 := F8.trans h1
  have S59 := Lib.hid (S58.out.keep0 h1)
  have S69 := Lib.hid (S68.out.keep0 h1)
  clear HX8 HY8 F8 S58 S68 h1
  go_wp2_with fail
  refine (tells_t u1 _ [] a4 1 c4 _ v4 0 _ _ _ data HY9.out (by decide) (H0.out.keep0 F9) rfl).mono ?_
  rintro e u2 ⟨rfl, h2⟩
  have F10 := F9.trans h2
  have S510 := Lib.hid (S59.out.keep0 h2)
  have S610 := Lib.hid (S69.out.keep0 h2)
  clear HY9 F9 S59 S69 h2
  go_wp2_with fail
  refine (same_t a5 pdata ndata ndata c5 cdata data data u2 S510.out (H0.out.keep0 F10) rfl).mono ?_
  rintro e u3 ⟨rfl, h3⟩
  have F11 := F10.trans h3
  have S611 := Lib.hid (S610.out.keep0 h3)
  clear F10 S510 S610 h3
  go_wp2_with fail
  refine (same_t a6 pdata ndata ndata c6 cdata data data u3 S611.out (H0.out.keep0 F11) rfl).mono ?_
  rintro e u4 ⟨rfl, h4⟩
  go_wp2_with fail
  go_ret
  exact ⟨rfl, F11.trans h4⟩
end Go.Proofs.YtmainjpffaebfaaGreat
end

section
namespace Go.Proofs.YtmainjpffaebfaaGreat.rFnArguments
open Go.ChangeShapes Go.WideShapes Go.ChangeAt Go.RowKit Go.Sha
set_option linter.unusedVariables false

theorem own : ownKnob Tryz.prog.godebug = none := by kernel_rfl
theorem laidOut : laidOutB Tryz.prog = true := by kernel_rfl

set_option maxRecDepth 100000 in
theorem lifted (os : Os) (started : os.Started) (H : Type) (enc : TypeId × Value → H) :
    ReturnsInHanded {} Tryz.checked os 3 .any (Rows.fnArgumentsSpec.pre6 enc Tryz.prog Tryz.f3 Rows.fnArgumentsRow.domain false) (Rows.fnArgumentsSpec.post enc Tryz.prog Tryz.f3 false true false false) := by
  refine returnsInHanded_of_change_sized (C := Tryz.checked) own started (by kernel_rfl) Tryz.func3
    (ChangeSpec.witness6 (enc := enc) (C := Tryz.checked) false ⟨#[], #[.int .i64 0, .slice none 0 0], []⟩ 8 (by kernel_rfl) (by kernel_rfl) (by kernel_rfl) (by kernel_rfl)) ?_
  intro W base args ds gs before hval0 hW hcnd hsz0 _
  have hsz : (DataW.weightsEach Tryz.prog (Tryz.f3.params.toList ++ Rows.fnArgumentsSpec.plain.varTypes Tryz.prog) (ds ++ gs)).all (· ≤ reachBytes) = true := hsz0
  have hval : ∀ (j : Nat) t v, Tryz.f3.params[j]? = some t → args[j]? = some v → Value.okWide Tryz.prog W .any base t v := hval0
  have hW' := hW
  obtain ⟨p, q, hA0, hV, rfl, hfz, hnd⟩ := hW
  have hA : DataW.TrodAll enc Tryz.prog W 0 (fun _ => true) true Tryz.f3.params.toList args.toList ds p := hA0
  rw [Tryz.params3] at hA hval hsz
  obtain ⟨v0, vs0, d0, ds0, p0, q0, hargs, rfl, rfl, h0, r0⟩ := trodAll_cons hA
  obtain ⟨v1, vs1, d1, ds1, p1, q1, rfl, rfl, rfl, h1, r1⟩ := trodAll_cons r0
  obtain ⟨rfl, rfl, rfl⟩ := trodAll_nil r1
  obtain rfl : args = #[v0, v1] := by cases args; simp_all
  obtain ⟨rfl, rfl⟩ := trodVars_none hV
  obtain ⟨a0, rfl, rfl, rfl, w0⟩ := open_int Tryz.underlying3 (hval 0 3 v0 rfl rfl) h0
  obtain ⟨a1, len1, cap1, rfl⟩ := okWide_slice Tryz.underlying22 (hval 1 22 v1 rfl rfl)
  have k1 := h1
  have lt1 : ∀ x ∈ p1, x.block < W.heap.size := by obtain ⟨m, hm⟩ := k1; exact DataW.trod_lt m _ _ _ hm
  obtain ⟨fuel1, hf1⟩ := h1
  obtain ⟨l1, s1, dl1⟩ := open_bytes Tryz.underlying22 Tryz.underlying5 (by kernel_rfl) hf1
  have b1 := (dl1.reach hsz (j := 1) rfl rfl Tryz.underlying22 (by kernel_rfl)).1
  clear hA0 hval0
  refine (fnArguments_walk a0 a1 len1 cap1 l1 W s1 (by omega)).mono fun e W' ⟨he, hfr⟩ => ?_
  have bel := hfr.below
  subst he
  exact ⟨_, rfl, _, _, _, [], _, [], hW', trodAll_mk1 (shut_bool Tryz.underlying4 _), (trodAll_cons_mk (shut_int Tryz.underlying3 w0) (trodAll_cons_mk (Below.trod laidOut (by kernel_rfl) (of_decide_eq_true (by kernel_rfl)) k1 bel lt1) trodAll_mk0)), rfl, bel.frame _, fun h => by cases h⟩

theorem proved : Rows.FnArgumentsSaid :=
  OpenClaim.holds_of_wide 3 Tryz.f3 rfl rfl rfl rfl rfl rfl rfl ⟨rfl, rfl, rfl, rfl, rfl⟩ rfl rfl rfl rfl rfl (by kernel_rfl) Tryz.func3 (by kernel_rfl)
    (of_decide_eq_true (by kernel_rfl)) (by unfold Func.isWrapper; first | (rw [if_pos (by decide +kernel)]; kernel_rfl) | (rw [if_neg (by decide +kernel)]; exact ⟨rfl, rfl⟩))
    (fun os started H enc _ => lifted os started H enc)
#print axioms proved
end Go.Proofs.YtmainjpffaebfaaGreat.rFnArguments
namespace Go.Proofs.YtmainjpffaebfaaGreat
theorem fnArguments_holds : Rows.FnArgumentsSaid := rFnArguments.proved
end Go.Proofs.YtmainjpffaebfaaGreat
end
