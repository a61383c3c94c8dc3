/- FnZeroHash: for every input the law returns true, and each argument reads afterwards as it read before. No condition. -/
import Derived.Test.YtfgfhdkedmgfiaaGA
import Derived.Test.YtfgfhdkedmgfiaaGB
import Derived.Test.YtfgfhdkedmgfiaaGC
import Derived.Test.YtfgfhdkedmgfiaaGG
import Derived.Test.YtfgfhdkedmgfiaaGH
import Derived.Test.YtfgfhdkedmgfiaaGN
import Derived.Test.YtfgfhdkedmgfiaaGQ
import Derived.Test.YtfgfhdkedmgfiaaGS
import Derived.Test.YtfgfhdkedmgfiaaGT
import Derived.Test.YtfgfhdkedmgfiaaGP
import Derived.Test.YtfgfhdkedmgfiaaGI
import Derived.Test.YtfgfhdkedmgfiaaGK
import Derived.Test.YtfgfhdkedmgfiaaGL
import Derived.Test.YtfgfhdkedmgfiaaGJ
import Derived.Below
import Derived.ChangeOld
import Derived.ShutString
section
namespace Go.Proofs.Ytfgfhdkedmgfiaa
open Go.ChangeShapes Go.WideShapes Go.ChangeAt Go.RowKit Go.Sha
theorem runH_len (r o : Nat) (xs : List Actn) : (runH r o xs).length = xs.length := (runS_len r o xs).1
set_option maxRecDepth 100000 in
set_option maxHeartbeats 1600000 in
theorem fnZeroHash_walk (a : Option Addr) (n c : Nat) (xs : List Actn) (w : World) (h : ActsAt w a n c xs) (hn : n ≤ 2932031007317) (_hD : ∀ x ∈ xs, x.data.length ≤ 140737488351232) :
    Calls Try.prog 5 #[.slice a n c] w (RetB true w) := by
  have R2 : Hid (∀ w a n c xs, ActsAt w a n c xs → n ≤ 2999999999999 → Calls Try.prog 11 #[.int .i64 4, .slice a n c] w (RunR n (runH 136 32 xs) w)) := fun w a n c xs h hn => runHashes_any w 4 a n c xs h hn
  have R1 : Hid (∀ w a n c xs, ActsAt w a n c xs → n ≤ 2999999999999 → Calls Try.prog 11 #[.int .i64 1, .slice a n c] w (RunR n (runH 136 32 xs) w)) := fun w a n c xs h hn => runHashes_any w 1 a n c xs h hn
  have HA := Lib.hid h
  have hcn := h.cap
  have hcm := h.max
  unfold maxLen at hcm
  clear h
  go_enter Try.func5, Try.ntmps5
  go_wp2_with fail
  refine (toActs_any w a n c xs HA.out hn).mono ?_
  rintro e w1 ⟨a1, c1, v1, rfl, A1, f1⟩
  have HA1 := Lib.hid A1.acts
  clear A1
  go_wp2_with fail
  refine (R2.out w1 a1 n c1 xs HA1.out (by omega)).mono ?_
  rintro e w2 ⟨a2, c2, v2, rfl, B2, f2⟩
  have HB2 := Lib.hid B2.read
  have F2 := f1.trans f2
  clear B2 HA1 f1 f2
  go_wp2_with fail
  refine (toActs_any w2 a n c xs (HA.out.keep F2 (by simp)) hn).mono ?_
  rintro e w3 ⟨a3, c3, v3, rfl, A3, f3⟩
  have HA3 := Lib.hid A3.acts
  clear A3
  go_wp2_with fail
  refine (R1.out w3 a3 n c3 xs HA3.out (by omega)).mono ?_
  rintro e w4 ⟨a4, c4, v4, rfl, B4, f4⟩
  have HB4 := Lib.hid B4.read
  have F4 := (F2.trans f3).trans f4
  have HB2' := Lib.hid (HB2.out.keep0 (f3.trans f4))
  clear B4 HA3 f3 f4 HB2
  go_wp2_with fail
  refine (sameResults_t w4 a2 a4 n c2 c4 _ HB2'.out HB4.out).mono ?_
  rintro e w5 ⟨rfl, f5⟩
  have F5 := F4.trans f5
  have hcap := HB2'.out.cap
  have hmx := HB2'.out.max
  unfold maxLen at hmx
  have t1 : ((n : Int) == (n : Int)) = true := by simp
  clear HB2' HB4 F4 f5
  go_wp2_with fail
  go_ret
  exact ⟨by simp, F5⟩
end Go.Proofs.Ytfgfhdkedmgfiaa
end

section
namespace Go.Proofs.Ytfgfhdkedmgfiaa.rFnZeroHash
open Go.ChangeShapes Go.WideShapes Go.ChangeAt Go.RowKit Go.Sha
set_option linter.unusedVariables false

theorem own : ownKnob Try.prog.godebug = none := by kernel_rfl
theorem laidOut : laidOutB Try.prog = true := by kernel_rfl

set_option maxRecDepth 100000 in
theorem lifted (os : Os) (started : os.Started) (H : Type) (enc : TypeId × Value → H) :
    ReturnsInHanded {} Try.checked os 5 .any (Rows.fnZeroHashSpec.pre6 enc Try.prog Try.f5 Rows.fnZeroHashRow.domain false) (Rows.fnZeroHashSpec.post enc Try.prog Try.f5 false true false false) := by
  refine returnsInHanded_of_change_sized (C := Try.checked) own started (by kernel_rfl) Try.func5
    (ChangeSpec.witness6 (enc := enc) (C := Try.checked) false ⟨#[], #[.slice none 0 0], []⟩ 8 (by kernel_rfl) (by kernel_rfl) (by kernel_rfl) (by kernel_rfl)) ?_
  intro W base args ds gs before hval0 hW hcnd hsz0 _
  have hsz : (DataW.weightsEach Try.prog (Try.f5.params.toList ++ Rows.fnZeroHashSpec.plain.varTypes Try.prog) (ds ++ gs)).all (· ≤ reachBytes) = true := hsz0
  have hval : ∀ (j : Nat) t v, Try.f5.params[j]? = some t → args[j]? = some v → Value.okWide Try.prog W .any base t v := hval0
  have hW' := hW
  obtain ⟨p, q, hA0, hV, rfl, hfz, hnd⟩ := hW
  have hA : DataW.TrodAll enc Try.prog W 0 (fun _ => true) true Try.f5.params.toList args.toList ds p := hA0
  rw [Try.params5] at hA hval hsz
  obtain ⟨v0, vs0, d0, ds0, p0, q0, hargs, rfl, rfl, h0, r0⟩ := trodAll_cons hA
  obtain ⟨rfl, rfl, rfl⟩ := trodAll_nil r0
  obtain rfl : args = #[v0] := by cases args; simp_all
  obtain ⟨rfl, rfl⟩ := trodVars_none hV
  obtain ⟨a0, len0, cap0, rfl⟩ := okWide_slice Try.underlying39 (hval 0 39 v0 rfl rfl)
  have k0 := h0
  have lt0 : ∀ x ∈ p0, x.block < W.heap.size := by obtain ⟨m, hm⟩ := k0; exact DataW.trod_lt m _ _ _ hm
  obtain ⟨fuel0, hf0⟩ := h0
  obtain ⟨l0, st0⟩ := open_steps Try.underlying39 Try.underlying64 (by kernel_rfl) rfl rfl rfl rfl (by kernel_rfl) (by kernel_rfl) (by kernel_rfl) (by kernel_rfl) Try.underlying3 Try.underlying3 Try.underlying3 Try.underlying22 Try.underlying5 (by kernel_rfl) hf0
  have b0 := st0.dat.reach hsz (j := 0) rfl rfl Try.underlying39 (by kernel_rfl) Try.underlying64 Try.underlying22 (by kernel_rfl)
  have s0 := st0.acts b0.2
  have al0 := getD_all (p := fun x => x.data.length ≤ 140737488351232) st0.len b0.2
  clear hA0 hval0
  refine (fnZeroHash_walk a0 len0 cap0 l0 W s0 b0.1 al0).mono fun e W' ⟨he, hfr⟩ => ?_
  have bel := hfr.below
  subst he
  exact ⟨_, rfl, _, _, _, [], _, [], hW', trodAll_mk1 (shut_bool Try.underlying4 _), (trodAll_cons_mk (Below.trod laidOut (by kernel_rfl) (of_decide_eq_true (by kernel_rfl)) k0 bel lt0) trodAll_mk0), rfl, bel.frame _, fun h => by cases h⟩

theorem proved : Rows.FnZeroHashSaid :=
  OpenClaim.holds_of_wide 5 Try.f5 rfl rfl rfl rfl rfl rfl rfl ⟨rfl, rfl, rfl, rfl, rfl⟩ rfl rfl rfl rfl rfl (by kernel_rfl) Try.func5 (by kernel_rfl)
    (of_decide_eq_true (by kernel_rfl)) (by unfold Func.isWrapper; first | (rw [if_pos (by decide +kernel)]; kernel_rfl) | (rw [if_neg (by decide +kernel)]; exact ⟨rfl, rfl⟩))
    (fun os started H enc _ => lifted os started H enc)
#print axioms proved
end Go.Proofs.Ytfgfhdkedmgfiaa.rFnZeroHash
namespace Go.Proofs.Ytfgfhdkedmgfiaa
theorem fnZeroHash_holds : Rows.FnZeroHashSaid := rFnZeroHash.proved
end Go.Proofs.Ytfgfhdkedmgfiaa
end
