/- FnXofZero: for every input the law returns true, and each argument reads afterwards as it read before. No condition. -/
import Derived.Test.YtkijnpjefccepaaGA
import Derived.Test.YtkijnpjefccepaaGB
import Derived.Test.YtkijnpjefccepaaGC
import Derived.Test.YtkijnpjefccepaaGG
import Derived.Test.YtkijnpjefccepaaGH
import Derived.Test.YtkijnpjefccepaaGN
import Derived.Test.YtkijnpjefccepaaGQ
import Derived.Test.YtkijnpjefccepaaGS
import Derived.Test.YtkijnpjefccepaaGT
import Derived.Test.YtkijnpjefccepaaGX
import Derived.Test.YtkijnpjefccepaaGY
import Derived.Test.YtkijnpjefccepaaGXA
import Derived.Test.YtkijnpjefccepaaGXB
import Derived.Test.YtkijnpjefccepaaGXI
import Derived.Test.YtkijnpjefccepaaGXJ
import Derived.Test.YtkijnpjefccepaaGXC
import Derived.Test.YtkijnpjefccepaaGXK
import Derived.Test.YtkijnpjefccepaaGXD
import Derived.Test.YtkijnpjefccepaaGXG
import Derived.Test.YtkijnpjefccepaaGXF
import Derived.Test.YtkijnpjefccepaaGXH
import Derived.Test.YtkijnpjefccepaaGXZ
import Derived.Below
import Derived.ChangeOld
import Derived.ShutString
section
namespace Go.Proofs.Ytkijnpjefccepaa
open Go.ChangeShapes Go.WideShapes Go.ChangeAt Go.RowKit Go.Sha
set_option maxRecDepth 100000 in
set_option maxHeartbeats 1600000 in
theorem fnXofZero_walk (a : Option Addr) (n c : Nat) (xs : List Actn) (w : World) (h : ActsAt w a n c xs) (hn : n ≤ 2932031007317) (hD : ∀ x ∈ xs, x.data.length ≤ 140737488351232) :
    Calls Try.prog 7 #[.slice a n c] w (RetB true w) := by
  obtain ⟨p, hp⟩ : ∃ p, p = xpOf 1 [] [] := ⟨_, rfl⟩
  have R2 := Lib.hid (fun w a n c xs h hn hD => runPlain_any 2 p hp w a n c xs h hn hD)
  have R1 := Lib.hid (fun w a n c xs h hn hD => runPlain_any 1 p hp w a n c xs h hn hD)
  have HA := Lib.hid h
  have HDD := Lib.hid hD
  have hxl := h.len
  have HL := runX_len p xs
  rw [hxl] at HL
  have HLL := Lib.hid HL
  clear h hp hxl HL hD
  go_enter Try.func7, Try.ntmps7
  go_wp2_with fail
  refine (toActs_any w a n c xs HA.out hn).mono ?_
  rintro e w1 ⟨a1, c1, v1, rfl, A1, f1⟩
  have HA1 := Lib.hid A1.acts
  clear A1
  go_wp2_with fail
  refine (R2.out w1 a1 n c1 xs HA1.out (by omega) HDD.out).mono ?_
  rintro e w2 ⟨a2, c2, v2, rfl, B2, f2⟩
  have HB2 := Lib.hid B2.read
  have F2 := f1.trans f2
  clear B2 HA1 f1 f2
  obtain ⟨rs, hrs⟩ : ∃ rs, rs = runX p xs := ⟨_, rfl⟩
  rw [← hrs] at HB2 HLL ⊢
  obtain ⟨m, hm⟩ : ∃ m, m = rs.length := ⟨_, rfl⟩
  rw [← hm] at HB2 HLL ⊢
  have HRS := Lib.hid hrs
  have HM := Lib.hid hm
  clear hrs hm
  go_wp2_with fail
  refine (toActs_any w2 a n c xs (HA.out.keep F2 (by simp)) hn).mono ?_
  rintro e w3 ⟨a3, c3, v3, rfl, A3, f3⟩
  have HA3 := Lib.hid A3.acts
  clear A3
  go_wp2_with fail
  refine (R1.out w3 a3 n c3 xs HA3.out (by omega) HDD.out).mono ?_
  rintro e w4 ⟨a4, c4, v4, rfl, B4, f4⟩
  rw [← HRS.out, ← HM.out] at B4 ⊢
  have HB4 := Lib.hid B4.read
  have F4 := (F2.trans f3).trans f4
  have HB2' := Lib.hid (HB2.out.keep0 (f3.trans f4))
  clear B4 HA3 f3 f4 HB2
  go_wp2_with fail
  refine (sameResults_t w4 a2 a4 m c2 c4 rs HB2'.out HB4.out).mono ?_
  rintro e w5 ⟨rfl, f5⟩
  have HB5 := Lib.hid (HB2'.out.keep0 f5)
  have F5 := F4.trans f5
  have hcap := HB5.out.cap
  have hmx := HB5.out.max
  unfold maxLen at hmx
  clear HB2' HB4 F4 f5
  by_cases hmn : m = n
  · have t1 : ((m : Int) == (n : Int)) = true := by simp [hmn]
    go_wp2_with fail
    go_ret
    exact ⟨by simp, F5⟩
  · have t1 : ((m : Int) == (n : Int)) = false := by simp; omega
    obtain ⟨hm0, hmle, hpan⟩ : 0 < m ∧ m ≤ n ∧ (rs.getD (m - 1) ⟨0, [], false, false⟩).pan = true := by
      rcases HLL.out with h0 | h0
      · exact absurd h0 hmn
      · exact h0
    obtain ⟨m1, hm1⟩ : ∃ m1, m = m1 + 1 := ⟨m - 1, by omega⟩
    rw [show m - 1 = m1 by omega] at hpan
    obtain ⟨b, o, ad, nd, cd, rfl, q, _⟩ := RsR.at4 HB5.out (show m1 < m by omega)
    rw [hpan] at q
    have q3 := q.c3
    have t2 : decide ((0 : Int) < (m : Int)) = true := by simp; omega
    have t3 : decide ((m : Int) < (n : Int)) = true := by simp; omega
    have t4 : (m : Int) - 1 = (m1 : Int) := by omega
    have t5 : IntKind.i64.wrap (m1 : Int) = (m1 : Int) := IntWalk.i64_in _ (by omega)
    have t6 : (m1 : Int) < (m : Int) := by omega
    clear q hpan
    go_wp2_with fail
    go_ret
    exact ⟨by simp, F5⟩
end Go.Proofs.Ytkijnpjefccepaa
end

section
namespace Go.Proofs.Ytkijnpjefccepaa.rFnXofZero
open Go.ChangeShapes Go.WideShapes Go.ChangeAt Go.RowKit Go.Sha
set_option linter.unusedVariables false

theorem own : ownKnob Try.prog.godebug = none := by kernel_rfl
theorem laidOut : laidOutB Try.prog = true := by kernel_rfl

set_option maxRecDepth 100000 in
theorem lifted (os : Os) (started : os.Started) (H : Type) (enc : TypeId × Value → H) :
    ReturnsInHanded {} Try.checked os 7 .any (Rows.fnXofZeroSpec.pre6 enc Try.prog Try.f7 Rows.fnXofZeroRow.domain false) (Rows.fnXofZeroSpec.post enc Try.prog Try.f7 false true false false) := by
  refine returnsInHanded_of_change_sized (C := Try.checked) own started (by kernel_rfl) Try.func7
    (ChangeSpec.witness6 (enc := enc) (C := Try.checked) false ⟨#[], #[.slice none 0 0], []⟩ 8 (by kernel_rfl) (by kernel_rfl) (by kernel_rfl) (by kernel_rfl)) ?_
  intro W base args ds gs before hval0 hW hcnd hsz0 _
  have hsz : (DataW.weightsEach Try.prog (Try.f7.params.toList ++ Rows.fnXofZeroSpec.plain.varTypes Try.prog) (ds ++ gs)).all (· ≤ reachBytes) = true := hsz0
  have hval : ∀ (j : Nat) t v, Try.f7.params[j]? = some t → args[j]? = some v → Value.okWide Try.prog W .any base t v := hval0
  have hW' := hW
  obtain ⟨p, q, hA0, hV, rfl, hfz, hnd⟩ := hW
  have hA : DataW.TrodAll enc Try.prog W 0 (fun _ => true) true Try.f7.params.toList args.toList ds p := hA0
  rw [Try.params7] at hA hval hsz
  obtain ⟨v0, vs0, d0, ds0, p0, q0, hargs, rfl, rfl, h0, r0⟩ := trodAll_cons hA
  obtain ⟨rfl, rfl, rfl⟩ := trodAll_nil r0
  obtain rfl : args = #[v0] := by cases args; simp_all
  obtain ⟨rfl, rfl⟩ := trodVars_none hV
  obtain ⟨a0, len0, cap0, rfl⟩ := okWide_slice Try.underlying40 (hval 0 40 v0 rfl rfl)
  have k0 := h0
  have lt0 : ∀ x ∈ p0, x.block < W.heap.size := by obtain ⟨m, hm⟩ := k0; exact DataW.trod_lt m _ _ _ hm
  obtain ⟨fuel0, hf0⟩ := h0
  obtain ⟨l0, st0⟩ := open_steps Try.underlying40 Try.underlying58 (by kernel_rfl) rfl rfl rfl rfl (by kernel_rfl) (by kernel_rfl) (by kernel_rfl) (by kernel_rfl) Try.underlying3 Try.underlying3 Try.underlying3 Try.underlying22 Try.underlying5 (by kernel_rfl) hf0
  have b0 := st0.dat.reach hsz (j := 0) rfl rfl Try.underlying40 (by kernel_rfl) Try.underlying58 Try.underlying22 (by kernel_rfl)
  have s0 := st0.acts b0.2
  have al0 := getD_all (p := fun x => x.data.length ≤ 140737488351232) st0.len b0.2
  clear hA0 hval0
  refine (fnXofZero_walk a0 len0 cap0 l0 W s0 b0.1 al0).mono fun e W' ⟨he, hfr⟩ => ?_
  have bel := hfr.below
  subst he
  exact ⟨_, rfl, _, _, _, [], _, [], hW', trodAll_mk1 (shut_bool Try.underlying4 _), (trodAll_cons_mk (Below.trod laidOut (by kernel_rfl) (of_decide_eq_true (by kernel_rfl)) k0 bel lt0) trodAll_mk0), rfl, bel.frame _, fun h => by cases h⟩

theorem proved : Rows.FnXofZeroSaid :=
  OpenClaim.holds_of_wide 7 Try.f7 rfl rfl rfl rfl rfl rfl rfl ⟨rfl, rfl, rfl, rfl, rfl⟩ rfl rfl rfl rfl rfl (by kernel_rfl) Try.func7 (by kernel_rfl)
    (of_decide_eq_true (by kernel_rfl)) (by unfold Func.isWrapper; first | (rw [if_pos (by decide +kernel)]; kernel_rfl) | (rw [if_neg (by decide +kernel)]; exact ⟨rfl, rfl⟩))
    (fun os started H enc _ => lifted os started H enc)
#print axioms proved
end Go.Proofs.Ytkijnpjefccepaa.rFnXofZero
namespace Go.Proofs.Ytkijnpjefccepaa
theorem fnXofZero_holds : Rows.FnXofZeroSaid := rFnXofZero.proved
end Go.Proofs.Ytkijnpjefccepaa
end
