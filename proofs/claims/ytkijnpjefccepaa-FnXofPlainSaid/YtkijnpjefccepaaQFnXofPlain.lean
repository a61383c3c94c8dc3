/- FnXofPlain: for every input the law returns true, and each argument reads afterwards as it read before. No condition. -/
import Derived.Test.YtkijnpjefccepaaGA
import Derived.Test.YtkijnpjefccepaaGB
import Derived.Test.YtkijnpjefccepaaGC
import Derived.Test.YtkijnpjefccepaaGG
import Derived.Test.YtkijnpjefccepaaGH
import Derived.Test.YtkijnpjefccepaaGN
import Derived.Test.YtkijnpjefccepaaGQ
import Derived.Test.YtkijnpjefccepaaGS
import Derived.Test.YtkijnpjefccepaaGT
import Derived.Test.YtkijnpjefccepaaGX
import Derived.Test.YtkijnpjefccepaaGY
import Derived.Test.YtkijnpjefccepaaGXA
import Derived.Test.YtkijnpjefccepaaGXB
import Derived.Test.YtkijnpjefccepaaGXI
import Derived.Test.YtkijnpjefccepaaGXJ
import Derived.Test.YtkijnpjefccepaaGXC
import Derived.Test.YtkijnpjefccepaaGXK
import Derived.Test.YtkijnpjefccepaaGXD
import Derived.Test.YtkijnpjefccepaaGXG
import Derived.Test.YtkijnpjefccepaaGXF
import Derived.Test.YtkijnpjefccepaaGXH
import Derived.Test.YtkijnpjefccepaaGXZ
import Derived.Below
import Derived.ChangeOld
import Derived.ShutString
section
namespace Go.Proofs.Ytkijnpjefccepaa
open Go.ChangeShapes Go.WideShapes Go.ChangeAt Go.RowKit Go.Sha
theorem runX_nil_len (p : XP) (xs : List Actn) (h : 0 < xs.length) : 0 < (runX p xs).length := by
  rcases runX_len p xs with h0 | h0
  · omega
  · exact h0.1
def PlRel (w : World) (kv : Value) (wr : World) : Prop := ∃ k : Nat, k ≤ 2 ∧ kv = .int .i64 ((k : Nat) : Int) ∧ Fr [] w wr
set_option maxRecDepth 100000 in
set_option maxHeartbeats 1600000 in
theorem fnXofPlain_walk (a : Option Addr) (n c : Nat) (xs : List Actn) (w : World) (h : ActsAt w a n c xs) (hn : n ≤ 2932031007317) (hD : ∀ x ∈ xs, x.data.length ≤ 140737488351232) :
    Calls Try.prog 8 #[.slice a n c] w (RetB true w) := by
  have R := Lib.hid (fun kind p hp w a n c xs h hn hD => runPlain_any kind p hp w a n c xs h hn hD)
  have HA := Lib.hid h
  have HDD := Lib.hid hD
  have hxl := Lib.hid h.len
  have hcn := h.cap
  have hcm := h.max
  unfold maxLen at hcm
  clear h hD
  go_enter Try.func8, Try.ntmps8
  go_wp2_with fail
  go_loopw [3] (fun kv wr => PlRel w kv wr) (fun kv _ => 2 - (intOf kv).toNat)
  case atStart => exact ⟨0, by omega, rfl, Fr.refl _ _⟩
  case round =>
    obtain ⟨k, hk, rfl, F0⟩ := hrel
    by_cases hlt : k < 2
    · obtain ⟨p, hp⟩ : ∃ p, p = xpOf k [] [] := ⟨_, rfl⟩
      have hk1 : p = xpOf (k5 ((k : Int) + 3)) [] [] := by
        rw [hp]
        obtain rfl | rfl : k = 0 ∨ k = 1 := by omega
        all_goals rfl
      have hk2 : p = xpOf (k5 (k : Int)) [] [] := by
        rw [hp]
        obtain rfl | rfl : k = 0 ∨ k = 1 := by omega
        all_goals rfl
      have e1 : IntKind.i64.wrap ((k : Int) + 3) = (k : Int) + 3 := IntWalk.i64_in _ (by omega)
      have HP1 := Lib.hid hk1
      have HP2 := Lib.hid hk2
      clear hk1 hk2 hp
      go_wp2_with fail
      refine (toActs_any wr a n c xs (HA.out.keep F0 (by simp)) hn).mono ?_
      rintro e w1 ⟨a1, c1, v1, rfl, A1, f1⟩
      have HA1 := Lib.hid A1.acts
      clear A1
      go_wp2_with fail
      refine (R.out _ p HP1.out w1 a1 n c1 xs HA1.out (by omega) HDD.out).mono ?_
      rintro e w2 ⟨a2, c2, v2, rfl, B2, f2⟩
      have HB2 := Lib.hid B2.read
      have F2 := (F0.trans f1).trans f2
      clear B2 HA1 f1 f2 F0
      obtain ⟨rs, hrs⟩ : ∃ rs, rs = runX p xs := ⟨_, rfl⟩
      have HN : Hid (n = 0 ∨ 0 < rs.length) := by
        rcases Nat.eq_zero_or_pos n with h0 | h0
        · exact .inl h0
        · right; rw [hrs]; exact runX_nil_len p xs (by rw [hxl.out]; exact h0)
      rw [← hrs] at HB2 ⊢
      obtain ⟨m, hm⟩ : ∃ m, m = rs.length := ⟨_, rfl⟩
      rw [← hm] at HB2 HN ⊢
      have HRS := Lib.hid hrs
      have HM := Lib.hid hm
      clear hrs hm
      go_wp2_with fail
      refine (toActs_any w2 a n c xs (HA.out.keep F2 (by simp)) hn).mono ?_
      rintro e w3 ⟨a3, c3, v3, rfl, A3, f3⟩
      have HA3 := Lib.hid A3.acts
      clear A3
      go_wp2_with fail
      refine (R.out _ p HP2.out w3 a3 n c3 xs HA3.out (by omega) HDD.out).mono ?_
      rintro e w4 ⟨a4, c4, v4, rfl, B4, f4⟩
      rw [← HRS.out, ← HM.out] at B4 ⊢
      have HB4 := Lib.hid B4.read
      have F4 := (F2.trans f3).trans f4
      have HB2' := Lib.hid (HB2.out.keep0 (f3.trans f4))
      clear B4 HA3 f3 f4 HB2
      go_wp2_with fail
      refine (sameResults_t w4 a2 a4 m c2 c4 rs HB2'.out HB4.out).mono ?_
      rintro e w5 ⟨rfl, f5⟩
      have F5 := F4.trans f5
      have hcap := HB2'.out.cap
      have hmx := HB2'.out.max
      unfold maxLen at hmx
      clear HB2' HB4 F4 f5
      by_cases hm0 : m = 0
      · have hn0 : n = 0 := by
          rcases HN.out with h0 | h0
          · exact h0
          · omega
        have t1 : ((m : Int) == (0 : Int)) = true := by simp [hm0]
        have t2 : decide ((0 : Int) < (n : Int)) = false := by simp; omega
        have hnn : ¬ 0 < n := by omega
        clear hn0 hm0
        go_wp2_with fail
        all_goals first
          | (exfalso; omega)
          | exact ⟨⟨k + 1, by omega, by simp, F5⟩, by simp [intOf]; omega⟩
      · have t1 : ((m : Int) == (0 : Int)) = false := by simp; omega
        go_wp2_with fail
        exact ⟨⟨k + 1, by omega, by simp, F5⟩, by simp [intOf]; omega⟩
    · obtain rfl : k = 2 := by omega
      go_wp2_with fail
      go_ret
      exact ⟨rfl, F0⟩
end Go.Proofs.Ytkijnpjefccepaa
end

section
namespace Go.Proofs.Ytkijnpjefccepaa.rFnXofPlain
open Go.ChangeShapes Go.WideShapes Go.ChangeAt Go.RowKit Go.Sha
set_option linter.unusedVariables false

theorem own : ownKnob Try.prog.godebug = none := by kernel_rfl
theorem laidOut : laidOutB Try.prog = true := by kernel_rfl

set_option maxRecDepth 100000 in
theorem lifted (os : Os) (started : os.Started) (H : Type) (enc : TypeId × Value → H) :
    ReturnsInHanded {} Try.checked os 8 .any (Rows.fnXofPlainSpec.pre6 enc Try.prog Try.f8 Rows.fnXofPlainRow.domain false) (Rows.fnXofPlainSpec.post enc Try.prog Try.f8 false true false false) := by
  refine returnsInHanded_of_change_sized (C := Try.checked) own started (by kernel_rfl) Try.func8
    (ChangeSpec.witness6 (enc := enc) (C := Try.checked) false ⟨#[], #[.slice none 0 0], []⟩ 8 (by kernel_rfl) (by kernel_rfl) (by kernel_rfl) (by kernel_rfl)) ?_
  intro W base args ds gs before hval0 hW hcnd hsz0 _
  have hsz : (DataW.weightsEach Try.prog (Try.f8.params.toList ++ Rows.fnXofPlainSpec.plain.varTypes Try.prog) (ds ++ gs)).all (· ≤ reachBytes) = true := hsz0
  have hval : ∀ (j : Nat) t v, Try.f8.params[j]? = some t → args[j]? = some v → Value.okWide Try.prog W .any base t v := hval0
  have hW' := hW
  obtain ⟨p, q, hA0, hV, rfl, hfz, hnd⟩ := hW
  have hA : DataW.TrodAll enc Try.prog W 0 (fun _ => true) true Try.f8.params.toList args.toList ds p := hA0
  rw [Try.params8] at hA hval hsz
  obtain ⟨v0, vs0, d0, ds0, p0, q0, hargs, rfl, rfl, h0, r0⟩ := trodAll_cons hA
  obtain ⟨rfl, rfl, rfl⟩ := trodAll_nil r0
  obtain rfl : args = #[v0] := by cases args; simp_all
  obtain ⟨rfl, rfl⟩ := trodVars_none hV
  obtain ⟨a0, len0, cap0, rfl⟩ := okWide_slice Try.underlying40 (hval 0 40 v0 rfl rfl)
  have k0 := h0
  have lt0 : ∀ x ∈ p0, x.block < W.heap.size := by obtain ⟨m, hm⟩ := k0; exact DataW.trod_lt m _ _ _ hm
  obtain ⟨fuel0, hf0⟩ := h0
  obtain ⟨l0, st0⟩ := open_steps Try.underlying40 Try.underlying58 (by kernel_rfl) rfl rfl rfl rfl (by kernel_rfl) (by kernel_rfl) (by kernel_rfl) (by kernel_rfl) Try.underlying3 Try.underlying3 Try.underlying3 Try.underlying22 Try.underlying5 (by kernel_rfl) hf0
  have b0 := st0.dat.reach hsz (j := 0) rfl rfl Try.underlying40 (by kernel_rfl) Try.underlying58 Try.underlying22 (by kernel_rfl)
  have s0 := st0.acts b0.2
  have al0 := getD_all (p := fun x => x.data.length ≤ 140737488351232) st0.len b0.2
  clear hA0 hval0
  refine (fnXofPlain_walk a0 len0 cap0 l0 W s0 b0.1 al0).mono fun e W' ⟨he, hfr⟩ => ?_
  have bel := hfr.below
  subst he
  exact ⟨_, rfl, _, _, _, [], _, [], hW', trodAll_mk1 (shut_bool Try.underlying4 _), (trodAll_cons_mk (Below.trod laidOut (by kernel_rfl) (of_decide_eq_true (by kernel_rfl)) k0 bel lt0) trodAll_mk0), rfl, bel.frame _, fun h => by cases h⟩

theorem proved : Rows.FnXofPlainSaid :=
  OpenClaim.holds_of_wide 8 Try.f8 rfl rfl rfl rfl rfl rfl rfl ⟨rfl, rfl, rfl, rfl, rfl⟩ rfl rfl rfl rfl rfl (by kernel_rfl) Try.func8 (by kernel_rfl)
    (of_decide_eq_true (by kernel_rfl)) (by unfold Func.isWrapper; first | (rw [if_pos (by decide +kernel)]; kernel_rfl) | (rw [if_neg (by decide +kernel)]; exact ⟨rfl, rfl⟩))
    (fun os started H enc _ => lifted os started H enc)
#print axioms proved
end Go.Proofs.Ytkijnpjefccepaa.rFnXofPlain
namespace Go.Proofs.Ytkijnpjefccepaa
theorem fnXofPlain_holds : Rows.FnXofPlainSaid := rFnXofPlain.proved
end Go.Proofs.Ytkijnpjefccepaa
end
