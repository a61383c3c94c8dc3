/- FnExactRunHashes: for every input the law returns true, and each argument reads afterwards as it read before. No condition. -/
import Derived.Test.YtfgfhdkedmgfiaaGA
import Derived.Test.YtfgfhdkedmgfiaaGB
import Derived.Test.YtfgfhdkedmgfiaaGC
import Derived.Test.YtfgfhdkedmgfiaaGD
import Derived.Test.YtfgfhdkedmgfiaaGE
import Derived.Test.YtfgfhdkedmgfiaaGF
import Derived.Test.YtfgfhdkedmgfiaaGG
import Derived.Test.YtfgfhdkedmgfiaaGH
import Derived.Test.YtfgfhdkedmgfiaaGN
import Derived.Test.YtfgfhdkedmgfiaaGQ
import Derived.Test.YtfgfhdkedmgfiaaGS
import Derived.Test.YtfgfhdkedmgfiaaGO
import Derived.Test.YtfgfhdkedmgfiaaGP
import Derived.Test.YtfgfhdkedmgfiaaGI
import Derived.Test.YtfgfhdkedmgfiaaGK
import Derived.Test.YtfgfhdkedmgfiaaGL
import Derived.Test.YtfgfhdkedmgfiaaGJ
import Derived.Test.YtfgfhdkedmgfiaaGM
import Derived.Test.YtfgfhdkedmgfiaaGER
import Derived.Test.YtfgfhdkedmgfiaaGEH
import Derived.Test.YtfgfhdkedmgfiaaGEM
import Derived.Test.YtfgfhdkedmgfiaaGEX
import Derived.Below
import Derived.ChangeOld
import Derived.ShutString
section
namespace Go.Proofs.Ytfgfhdkedmgfiaa
open Go.ChangeShapes Go.WideShapes Go.ChangeAt Go.RowKit Go.Sha
set_option maxRecDepth 100000 in
set_option maxHeartbeats 1600000 in
theorem fnExactRunHashes_walk (kind : Int) (a : Option Addr) (n c : Nat) (xs : List Actn) (w : World) (h : ActsAt w a n c xs) (_hn : n ≤ 2932031007317) (_hD : ∀ x ∈ xs, x.data.length ≤ 140737488351232) :
    Calls Try.prog 8 #[.int .i64 kind, .slice a n c] w (RetB true w) := by
  have HA := Lib.hid h
  clear h _hn _hD
  go_enter Try.func8, Try.ntmps8
  go_wp2_with fail
  refine (szActS_any w a n c xs HA.out).mono ?_
  rintro e w1 ⟨z, rfl, hz1, hz2, hz3, F1⟩
  by_cases hz : z < 0
  · clear hz3
    go_wp2_with fail
    go_ret
    exact ⟨rfl, F1⟩
  · have hb := hz3 (by omega)
    have hn : n ≤ 1048576 := by omega
    have HBX : Hid (bytesH xs ≤ 1048576) := show _ ≤ _ by omega
    have HF1 := Lib.hid F1
    clear hz3 hb F1
    obtain ⟨rs, hrs⟩ : ∃ rs, rs = runH (rOf (k5 kind)) (oOf (k5 kind)) xs := ⟨_, rfl⟩
    have HRS := Lib.hid hrs
    clear hrs
    have HSM : Hid ((rs.map (fun r => r.data.length)).sum ≤ 68157440) := by
      show _ ≤ _
      rw [HRS.out]
      have h1 := runH_data (rOf (k5 kind)) (oOf (k5 kind)) xs
      have h2 : oOf (k5 kind) * xs.length ≤ 64 * 1048576 := Nat.mul_le_mul (rt_of _ (k5_lt kind)).ole (by rw [HA.out.len]; exact hn)
      have h3 := HBX.out
      omega
    go_wp2_with fail
    -- the reference
    refine (toActS_any w1 a n c xs (HA.out.keep HF1.out (by simp)) hn).mono ?_
    rintro e w2 ⟨P2, rfl, A2, l2, m2, f2⟩
    have H2 := A2.acts l2 (by unfold maxLen; omega)
    rw [m2] at H2
    have HH2 := Lib.hid H2
    have HF2 := Lib.hid (HF1.out.trans f2)
    clear A2 l2 m2 f2 HF1 H2 P2
    go_wp2_with fail
    refine (specRunHashes_any w2 kind _ n n xs HH2.out hn HBX.out).mono ?_
    rintro e w3 ⟨aW, cW, rfl, R3, f3⟩
    rw [← HRS.out] at R3
    have HW := Lib.hid R3
    have HF3 := Lib.hid (HF2.out.trans f3)
    have HZ3 := Lib.hid HF3.out.size
    clear R3 f3 HF2 HH2
    go_wp2_with fail
    -- the arguments
    refine (toActS_any w3 a n c xs (HA.out.keep HF3.out (by simp)) hn).mono ?_
    rintro e w4 ⟨P4, rfl, A4, l4, m4, f4⟩
    obtain ⟨g4, hg4⟩ : ∃ g4, g4 = w3.heap.size := ⟨_, rfl⟩
    have HG4 := Lib.hid hg4
    rw [← hg4] at A4 ⊢
    have HX := Lib.hid A4
    have HP4 := Lib.hid (And.intro l4 m4)
    have HF4 := Lib.hid (HF3.out.trans f4)
    have HFW4 := Lib.hid f4
    clear A4 l4 m4 f4 HF3 hg4
    go_wp2_with fail
    have H4 : ActsAt w4 (some ⟨g4, 0, none⟩) n n xs := by
      have e := HX.out.acts HP4.out.1 (by unfold maxLen; omega)
      rwa [HP4.out.2] at e
    refine (runHashes_any w4 kind _ n n xs H4 (by omega)).mono ?_
    rintro e w5 ⟨aG, cG, vG, rfl, R5, f5⟩
    rw [← HRS.out] at R5
    have HG := Lib.hid R5
    have HF5 := Lib.hid (HF4.out.trans f5)
    have HFW5 := Lib.hid (HFW4.out.trans f5)
    have HFX5 := Lib.hid f5
    have HZ := Lib.hid (And.intro HF4.out.size HFW4.out.size)
    clear R5 f5 HF4 HFW4 H4
    go_wp2_with fail
    refine (eqResultS_t w5 aG aW n cG cW rs HG.out.read (HW.out.keep0 HFW5.out)).mono ?_
    rintro e w6 ⟨rfl, f6⟩
    have HG6 := Lib.hid (HG.out.keep0 f6)
    have HF6 := Lib.hid (HF5.out.trans f6)
    have HFW6 := Lib.hid (HFW5.out.trans f6)
    have HFX6 := Lib.hid (HFX5.out.trans f6)
    clear f6 HG HF5 HFW5 HFX5
    go_wp2_with fail
    refine (toActS_any w6 a n c xs (HA.out.keep HF6.out (by simp)) hn).mono ?_
    rintro e w7 ⟨P7, rfl, A7, l7, m7, f7⟩
    have H7 := A7.acts l7 (by unfold maxLen; omega)
    rw [m7] at H7
    have HH7 := Lib.hid H7
    have HG7 := Lib.hid (HG6.out.keep0 f7)
    have HF7 := Lib.hid (HF6.out.trans f7)
    have HFW7 := Lib.hid (HFW6.out.trans f7)
    have HFX7 := Lib.hid (HFX6.out.trans f7)
    clear A7 l7 m7 f7 H7 P7 HG6 HF6 HFW6 HFX6
    go_wp2_with fail
    have H4 : ActsAt w7 (some ⟨g4, 0, none⟩) n n xs := by
      have e := (HX.out.keep0 HFX7.out).acts HP4.out.1 (by unfold maxLen; omega)
      rwa [HP4.out.2] at e
    refine (eqActS_t w7 _ _ n n n xs H4 HH7.out).mono ?_
    rintro e w8 ⟨rfl, f8⟩
    have HG8 := Lib.hid (HG7.out.keep0 f8)
    have HF8 := Lib.hid (HF7.out.trans f8)
    have HFW8 := Lib.hid (HFW7.out.trans f8)
    have HX8 := Lib.hid (HX.out.keep0 (HFX7.out.trans f8))
    have HL4 := Lib.hid HX.out.lie
    clear f8 HG7 HF7 HFW7 HFX7 HH7 H4 HX
    go_wp2_with fail
    -- marks into the arguments
    have K4 : ∀ i, i ≤ n → kA 1 (P4.map (·.2)) i ≤ 109951162777 := fun i hi => by
      have h1 := kA_le 1 P4 xs HP4.out.2 (fun p hp => (HX8.out.dat p hp).2.1) i
      have h2 := HBX.out
      omega
    refine (markActS_any w8 g4 n 1 _ (HX8.out.ma HP4.out.1) hn K4).mono ?_
    rintro e w9 ⟨rfl, f9⟩
    have HG9 := Lib.hid (HG8.out.keepB f9 (fun q hq => (HL4.out q hq).2))
    have HF9 := Lib.hid (HF8.out.via f9 (fun q hq => by have h1 := (HL4.out q hq).1; have h2 := HG4.out; have h3 := HZ3.out; omega))
    have HFW9 := Lib.hid (HFW8.out.via f9 (fun q hq => by have h1 := (HL4.out q hq).1; have h2 := HG4.out; omega))
    clear f9 HG8 HF8 HFW8 HX8 HL4
    generalize kA 1 (P4.map (·.2)) n = k9
    clear K4 HP4
    go_wp2_with fail
    refine (eqResultS_t w9 aG aW n cG cW rs HG9.out.read (HW.out.keep0 HFW9.out)).mono ?_
    rintro e w10 ⟨rfl, f10⟩
    have HG10 := Lib.hid (HG9.out.keep0 f10)
    have HF10 := Lib.hid (HF9.out.trans f10)
    have HFW10 := Lib.hid (HFW9.out.trans f10)
    clear f10 HG9 HF9 HFW9
    go_wp2_with fail
    -- marks into the results
    obtain ⟨ls, hls⟩ : ∃ ls, ls = rs.map (fun r => r.data.length) := ⟨_, rfl⟩
    have HLS := Lib.hid hls
    have HK : Hid (∀ i, i ≤ n → kR 1 ls i ≤ 109951162777) := fun i hi => by
      have h1 := kR_le 1 ls i
      have h2 := HSM.out
      rw [HLS.out] at h1 ⊢
      omega
    have HLL : Hid (ls.length = n) := by
      show _ = _
      rw [HLS.out, List.length_map]
      exact HG10.out.len
    clear hls
    refine (markResultS_any w10 _ aG n cG 1 rs vG ls HG10.out HLS.out HK.out).mono ?_
    rintro e w11 ⟨rfl, rs', R11, m11, f11⟩
    have HL10 := HG10.out.lie
    have HG11 := Lib.hid R11
    have HM11 := Lib.hid m11
    have HF11 := Lib.hid (HF10.out.via f11 (fun q hq => by have h1 := HL10 q hq; have h2 := HZ.out; omega))
    have HFW11 := Lib.hid (HFW10.out.via f11 (fun q hq => by have h1 := HL10 q hq; have h2 := HZ.out; omega))
    clear R11 m11 f11 HL10 HG10 HF10 HFW10
    obtain ⟨m, hm⟩ : ∃ m, m = kR 1 ls n := ⟨_, rfl⟩
    rw [← hm]
    have HMM := Lib.hid hm
    clear hm
    go_wp2_with fail
    refine (heldResultS_any w11 aG n cG 1 rs' ls HG11.out.read HM11.out HLL.out HK.out).mono ?_
    rintro e w12 ⟨rfl, f12⟩
    rw [← HMM.out]
    have HG12 := Lib.hid (HG11.out.keep0 f12)
    have HF12 := Lib.hid (HF11.out.trans f12)
    have HFW12 := Lib.hid (HFW11.out.trans f12)
    clear f12 HG11 HF11 HFW11
    go_wp2_with fail
    -- once more
    refine (toActS_any w12 a n c xs (HA.out.keep HF12.out (by simp)) hn).mono ?_
    rintro e w13 ⟨P13, rfl, A13, l13, m13, f13⟩
    have H13 := A13.acts l13 (by unfold maxLen; omega)
    rw [m13] at H13
    have HH13 := Lib.hid H13
    have HG13 := Lib.hid (HG12.out.keep0 f13)
    have HF13 := Lib.hid (HF12.out.trans f13)
    have HFW13 := Lib.hid (HFW12.out.trans f13)
    clear A13 l13 m13 f13 H13 P13 HG12 HF12 HFW12
    go_wp2_with fail
    refine (runHashes_any w13 kind _ n n xs HH13.out (by omega)).mono ?_
    rintro e w14 ⟨aH, cH, vH, rfl, R14, f14⟩
    rw [← HRS.out] at R14
    have HR14 := Lib.hid R14
    have HG14 := Lib.hid (HG13.out.keep0 f14)
    have HF14 := Lib.hid (HF13.out.trans f14)
    have HFW14 := Lib.hid (HFW13.out.trans f14)
    clear R14 f14 HG13 HF13 HFW13 HH13
    go_wp2_with fail
    refine (eqResultS_t w14 aH aW n cH cW rs HR14.out.read (HW.out.keep0 HFW14.out)).mono ?_
    rintro e w15 ⟨rfl, f15⟩
    have HG15 := Lib.hid (HG14.out.keep0 f15)
    have HF15 := Lib.hid (HF14.out.trans f15)
    clear f15 HG14 HF14 HFW14 HR14
    go_wp2_with fail
    refine (heldResultS_any w15 aG n cG 1 rs' ls HG15.out.read HM11.out HLL.out HK.out).mono ?_
    rintro e w16 ⟨rfl, f16⟩
    rw [← HMM.out]
    have HF16 := Lib.hid (HF15.out.trans f16)
    clear f16 HG15 HF15
    go_wp2_with fail
    go_ret
    exact ⟨rfl, HF16.out⟩
end Go.Proofs.Ytfgfhdkedmgfiaa
end

section
namespace Go.Proofs.Ytfgfhdkedmgfiaa.rFnExactRunHashes
open Go.ChangeShapes Go.WideShapes Go.ChangeAt Go.RowKit Go.Sha
set_option linter.unusedVariables false

theorem own : ownKnob Try.prog.godebug = none := by kernel_rfl
theorem laidOut : laidOutB Try.prog = true := by kernel_rfl

set_option maxRecDepth 100000 in
theorem lifted (os : Os) (started : os.Started) (H : Type) (enc : TypeId × Value → H) :
    ReturnsInHanded {} Try.checked os 8 .any (Rows.fnExactRunHashesSpec.pre6 enc Try.prog Try.f8 Rows.fnExactRunHashesRow.domain false) (Rows.fnExactRunHashesSpec.post enc Try.prog Try.f8 false true false false) := by
  refine returnsInHanded_of_change_sized (C := Try.checked) own started (by kernel_rfl) Try.func8
    (ChangeSpec.witness6 (enc := enc) (C := Try.checked) false ⟨#[], #[.int .i64 0, .slice none 0 0], []⟩ 8 (by kernel_rfl) (by kernel_rfl) (by kernel_rfl) (by kernel_rfl)) ?_
  intro W base args ds gs before hval0 hW hcnd hsz0 _
  have hsz : (DataW.weightsEach Try.prog (Try.f8.params.toList ++ Rows.fnExactRunHashesSpec.plain.varTypes Try.prog) (ds ++ gs)).all (· ≤ reachBytes) = true := hsz0
  have hval : ∀ (j : Nat) t v, Try.f8.params[j]? = some t → args[j]? = some v → Value.okWide Try.prog W .any base t v := hval0
  have hW' := hW
  obtain ⟨p, q, hA0, hV, rfl, hfz, hnd⟩ := hW
  have hA : DataW.TrodAll enc Try.prog W 0 (fun _ => true) true Try.f8.params.toList args.toList ds p := hA0
  rw [Try.params8] at hA hval hsz
  obtain ⟨v0, vs0, d0, ds0, p0, q0, hargs, rfl, rfl, h0, r0⟩ := trodAll_cons hA
  obtain ⟨v1, vs1, d1, ds1, p1, q1, rfl, rfl, rfl, h1, r1⟩ := trodAll_cons r0
  obtain ⟨rfl, rfl, rfl⟩ := trodAll_nil r1
  obtain rfl : args = #[v0, v1] := by cases args; simp_all
  obtain ⟨rfl, rfl⟩ := trodVars_none hV
  obtain ⟨a0, rfl, rfl, rfl, w0⟩ := open_int Try.underlying3 (hval 0 3 v0 rfl rfl) h0
  obtain ⟨a1, len1, cap1, rfl⟩ := okWide_slice Try.underlying46 (hval 1 46 v1 rfl rfl)
  have k1 := h1
  have lt1 : ∀ x ∈ p1, x.block < W.heap.size := by obtain ⟨m, hm⟩ := k1; exact DataW.trod_lt m _ _ _ hm
  obtain ⟨fuel1, hf1⟩ := h1
  obtain ⟨l1, st1⟩ := open_steps Try.underlying46 Try.underlying74 (by kernel_rfl) rfl rfl rfl rfl (by kernel_rfl) (by kernel_rfl) (by kernel_rfl) (by kernel_rfl) Try.underlying3 Try.underlying3 Try.underlying3 Try.underlying22 Try.underlying5 (by kernel_rfl) hf1
  have b1 := st1.dat.reach hsz (j := 1) rfl rfl Try.underlying46 (by kernel_rfl) Try.underlying74 Try.underlying22 (by kernel_rfl)
  have s1 := st1.acts b1.2
  have al1 := getD_all (p := fun x => x.data.length ≤ 140737488351232) st1.len b1.2
  clear hA0 hval0
  refine (fnExactRunHashes_walk a0 a1 len1 cap1 l1 W s1 b1.1 al1).mono fun e W' ⟨he, hfr⟩ => ?_
  have bel := hfr.below
  subst he
  exact ⟨_, rfl, _, _, _, [], _, [], hW', trodAll_mk1 (shut_bool Try.underlying4 _), (trodAll_cons_mk (shut_int Try.underlying3 w0) (trodAll_cons_mk (Below.trod laidOut (by kernel_rfl) (of_decide_eq_true (by kernel_rfl)) k1 bel lt1) trodAll_mk0)), rfl, bel.frame _, fun h => by cases h⟩

theorem proved : Rows.FnExactRunHashesSaid :=
  OpenClaim.holds_of_wide 8 Try.f8 rfl rfl rfl rfl rfl rfl rfl ⟨rfl, rfl, rfl, rfl, rfl⟩ rfl rfl rfl rfl rfl (by kernel_rfl) Try.func8 (by kernel_rfl)
    (of_decide_eq_true (by kernel_rfl)) (by unfold Func.isWrapper; first | (rw [if_pos (by decide +kernel)]; kernel_rfl) | (rw [if_neg (by decide +kernel)]; exact ⟨rfl, rfl⟩))
    (fun os started H enc _ => lifted os started H enc)
#print axioms proved
end Go.Proofs.Ytfgfhdkedmgfiaa.rFnExactRunHashes
namespace Go.Proofs.Ytfgfhdkedmgfiaa
theorem fnExactRunHashes_holds : Rows.FnExactRunHashesSaid := rFnExactRunHashes.proved
end Go.Proofs.Ytfgfhdkedmgfiaa
end
