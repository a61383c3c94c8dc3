/- FnXofIsSum: for every input of bulk at most 1048576 the law returns true, and each argument reads afterwards as it read before. The bound on the bulk is the given one. -/
import Derived.Test.YtmainjpffaebfaaGA
import Derived.Test.YtmainjpffaebfaaGB
import Derived.Test.YtmainjpffaebfaaGC
import Derived.Test.YtmainjpffaebfaaGG
import Derived.Test.YtmainjpffaebfaaGH
import Derived.Test.YtmainjpffaebfaaGN
import Derived.Test.YtmainjpffaebfaaGS
import Derived.Test.YtmainjpffaebfaaGT
import Derived.Test.YtmainjpffaebfaaGU
import Derived.Test.YtmainjpffaebfaaGX
import Derived.Test.YtmainjpffaebfaaGY
import Derived.Test.YtmainjpffaebfaaGXA
import Derived.Test.YtmainjpffaebfaaGXB
import Derived.Test.YtmainjpffaebfaaGXI
import Derived.Test.YtmainjpffaebfaaGXJ
import Derived.Test.YtmainjpffaebfaaGXC
import Derived.Test.YtmainjpffaebfaaGXK
import Derived.Test.YtmainjpffaebfaaGXD
import Derived.Test.YtmainjpffaebfaaGXG
import Derived.Test.YtmainjpffaebfaaGXF
import Derived.Test.YtmainjpffaebfaaGXH
import Derived.Test.YtmainjpffaebfaaGXW
import Derived.Test.YtmainjpffaebfaaGXZ
import Derived.Below
import Derived.ChangeOld
import Derived.ShutString
section
namespace Go.Proofs.Ytmainjpffaebfaa
open Go.ChangeShapes Go.WideShapes Go.ChangeAt Go.RowKit Go.Sha
def IsRel (w : World) (kv : Value) (wr : World) : Prop := ∃ k : Nat, k ≤ 3 ∧ kv = .int .i64 ((k : Nat) : Int) ∧ Fr [] w wr
theorem isP0 (data : Bs) (K : Nat) : xOut (xpOf 0 [] []) ⟨(xpOf 0 [] []).hd ++ data, none⟩ K = xof 168 32 31 data K := by
  show xOut _ ⟨[] ++ data, none⟩ K = _
  simp [xOut, XS.pos, xpOf]
theorem isP1 (data : Bs) (K : Nat) : xOut (xpOf 1 [] []) ⟨(xpOf 1 [] []).hd ++ data, none⟩ K = xof 136 64 31 data K := by
  show xOut _ ⟨[] ++ data, none⟩ K = _
  simp [xOut, XS.pos, xpOf]
set_option maxRecDepth 100000 in
set_option maxHeartbeats 4000000 in
theorem fnXofIsSum_walk (pdata : Option Addr) (ndata cdata : Nat) (data : Bs) (pcuts : Option Addr) (ncuts ccuts : Nat) (cuts : Bs) (n : Nat) (hun : n < 256) (w : World) (hdata : Sl w pdata ndata cdata data) (hndata : ndata ≤ 1048576) (hcuts : Sl w pcuts ncuts ccuts cuts) (hncuts : ncuts ≤ 1048576) :
    Calls Try.prog 7 #[.slice pdata ndata cdata, .slice pcuts ncuts ccuts, .int .u8 (n : Int)] w (RetB true w) := by
  have H_data := Lib.hid hdata.len
  have H0data := Lib.hid hdata
  clear hdata
  have H_cuts := Lib.hid hcuts.len
  have H0cuts := Lib.hid hcuts
  clear hcuts
  obtain ⟨i0, hi0, hz0, hz1, hz2⟩ := info_parts infoAP
  have cu0 : IntKind.i64.wrap (n : Int) = (n : Int) := IntWalk.i64_in _ (by omega)
  obtain ⟨K, hK⟩ : ∃ K, K = n + 1 := ⟨_, rfl⟩
  have hZK : (n : Int) + 1 = (K : Int) := by omega
  have hBK : K ≤ 1024 := by omega
  have hWK : IntKind.i64.wrap (K : Int) = (K : Int) := IntWalk.i64_in _ (by omega)
  have R := Lib.hid (fun kind p hp w a n c xs h hn hD => runPlain_any kind p hp w a n c xs h hn hD)
  have FW := Fr.refl [] w
  have tK : ((K : Int) != (K : Int)) = false := by simp
  clear hK
  go_enter Try.func7, Try.ntmps7
  go_wp2_with fail
  go_loopw [7] (fun kv wr => IsRel w kv wr) (fun kv _ => 3 - (intOf kv).toNat)
  case atStart => exact ⟨0, by omega, rfl, FW⟩
  case round =>
    obtain ⟨kk, hkk, rfl, F0⟩ := hrel
    by_cases hlt : kk < 3
    · have FW := F0
      obtain ⟨q, hq⟩ : ∃ q, q = xpOf (k5 (kk : Int)) [] [] := ⟨_, rfl⟩
      obtain ⟨Z, hZ⟩ : ∃ Z, Z = xOut q ⟨q.hd ++ data, none⟩ K := ⟨_, rfl⟩
      have HQ := Lib.hid hq
      have HZ := Lib.hid hZ
      clear hq hZ F0
      go_wp2_with fail
      refine (pieces_any wr pdata pcuts ndata cdata ncuts ccuts data cuts (H0data.out.keep0 FW) (H0cuts.out.keep0 FW) (by omega) (by omega)).mono ?_
      rintro e w1 ⟨ao, co, vs, rfl, A1, Fq⟩
      obtain ⟨M, hM⟩ : ∃ M, M = ncuts + 1 := ⟨_, rfl⟩
      rw [← hM] at A1 ⊢
      have HR := Lib.hid A1
      have bM : M ≤ 1048577 := by omega
      have HM := Lib.hid hM
      have HK := Lib.hid (show (List.replicate K (0 : UInt8)).length = K by simp)
      clear A1 hM
      go_wp2_with fail
      refine (lread_any 0 K _ (by omega)).mono ?_
      rintro e w3 ⟨a3, c3, rfl, O3, f3⟩
      have R3 := Lib.hid (HR.out.keep0 f3)
      have HO3 := Lib.hid (O3.sl_at (n := K) HK.out)
      have HN3 : Hid (∀ y, a3 = some y → K ≠ 0 → ∀ z, ao = some z → y.block ≠ z.block) := (fun y hy _ z hz => by
        have h1 : w1.heap.size ≤ y.block := by subst hy; exact O3.block.2.2.1
        have h2 := (ownsRow_lt HR.out.row (show (Value.slice ao M co).ownBlock = some z.block by rw [hz]; rfl)).2
        omega)
      have F3 := Fq.trans f3
      have Y4 : Hid (Src Try.prog 4 30 (.slice (some ⟨w3.heap.size, 0, none⟩) 1 1) 1 (acCells (⟨1, 0, 0, (List.replicate K (0 : UInt8))⟩, (a3, K, c3))) (w3.alloc (.cells #[.int .i64 1, .int .i64 0, .int .i64 0, .slice a3 K c3] 27))) := Src_act Try.underlying30 ⟨1, 0, 0, (List.replicate K (0 : UInt8))⟩ (a3, K, c3) 27
      obtain ⟨XS, hXS⟩ : ∃ XS, XS = ((wrs (pcs data cuts)).zip vs).flatMap acCells := ⟨_, rfl⟩
      obtain ⟨YS, hYS⟩ : ∃ YS, YS = acCells (⟨1, 0, 0, (List.replicate K (0 : UInt8))⟩, (a3, K, c3)) := ⟨_, rfl⟩
      have f4 : Fr [] w3 (w3.alloc (.cells #[.int .i64 1, .int .i64 0, .int .i64 0, .slice a3 K c3] 27)) := (Fr.refl _ _).alloc _
      have O4 : Hid ((w3.alloc (.cells #[.int .i64 1, .int .i64 0, .int .i64 0, .slice a3 K c3] 27)).ownsRow wr.heap.size 27 4 (.slice ao M co) M XS) := by rw [hXS]; exact (R3.out.keep0 f4).row
      rw [← hYS] at Y4
      have X1 : Hid (M + 1 ≤ maxLen) := by show _ ≤ _; unfold maxLen; omega
      have X2 : Hid ((M + 1) * 48 ≤ 140737488355328) := by show _ ≤ _; omega
      have X3 : Hid (wr.heap.size ≤ (w3.alloc (.cells #[.int .i64 1, .int .i64 0, .int .i64 0, .slice a3 K c3] 27)).heap.size) := by show _ ≤ _; have := F3.size; simp; omega
      have HXY := Lib.hid (And.intro hXS hYS)
      clear hXS hYS O3 f3
      go_wp2_with (at_builtin; refine wpList_append_srcN _ rfl _ _ 30 30 rfl wr.heap.size 27 i0 (.agg #[.int .i64 0, .int .i64 0, .int .i64 0, .slice none 0 0]) 4 48 Try.underlying30 hi0 hz0 hz1 hz2 rfl ao (M) co XS rfl O4.out _ 1 YS rfl Y4.out X1.out X2.out X3.out ?_)
      intro a5 c5 w5 ho5 hg5 ha5
      have f5 : Fr (blkOf ao) (w3.alloc (.cells #[.int .i64 1, .int .i64 0, .int .i64 0, .slice a3 K c3] 27)) w5 := by
        rw [← ownBlock_blkOf ao (M) co]
        exact (Fr.refl _ _).grown hg5 (fun q hq => by rw [hq]; exact .inr (by simp))
      have R5 := Lib.hid (R3.out.push (x := ⟨1, 0, 0, (List.replicate K (0 : UInt8))⟩) (v := (a3, K, c3)) f4 HO3.out (show K ≤ 140737488351232 by omega) HN3.out (by rw [← HXY.out.1, ← HXY.out.2]; exact ho5) hg5 (by simpa using ha5))
      have F5 := Lib.hid ((F3.trans f4).via f5 (fun q hq => by
        obtain ⟨z, hz, e⟩ := mem_blkOf.1 hq
        rw [← e]
        exact (ownsRow_lt R3.out.row (show (Value.slice ao (M) co).ownBlock = some z.block by rw [hz]; rfl)).1))
      have HA5 : Hid (∀ z, a5 = some z → ao = some z ∨ w3.heap.size ≤ z.block) := (fun z hz => by
        have ha5' : a5 = ao ∨ a5 = some ⟨(w3.alloc (.cells #[.int .i64 1, .int .i64 0, .int .i64 0, .slice a3 K c3] 27)).heap.size, 0, none⟩ := by simpa using ha5
        rcases ha5' with h | h
        · left; rw [← h]; exact hz
        · right; rw [h] at hz; have := Option.some.inj hz; rw [← this]; simp)
      clear ho5 hg5 ha5 f5 f4 F3 O4 Y4 X1 X2 X3 HR R3 HO3 HN3 HXY HA5
      go_wp2_with fail
      refine (R.out _ q HQ.out w5 a5 (M + 1) c5 _ R5.out.acts (by omega) (fun x hx => by
        rcases List.mem_append.1 hx with hx | hx
        · simp only [wrs, List.mem_map] at hx
          obtain ⟨y, hy, rfl⟩ := hx
          have := pcs_le _ _ _ hy
          rw [H_data.out] at this
          show y.length ≤ _
          omega
        · simp only [List.mem_cons, List.not_mem_nil, or_false] at hx
          subst hx
          show (List.replicate K (0 : UInt8)).length ≤ _
          rw [List.length_replicate]
          omega)).mono ?_
      rintro e w6 ⟨a6, c6, v6, rfl, B6, f6⟩
      have hl6 : (runX q (wrs (pcs data cuts) ++ [⟨1, 0, 0, List.replicate K (0 : UInt8)⟩])).length = M + 1 := by rw [runX_read, List.length_append, wrR_len, pcs_len, HM.out, H_cuts.out]; rfl
      rw [hl6] at B6 ⊢
      rw [runX_read, pcs_flat, List.length_replicate, ← HZ.out] at B6
      have F6 := (FW.trans F5.out).trans f6
      have HB := Lib.hid B6
      have HQ6 := RsI.read B6
      have hcap := HQ6.cap
      have hmx := HQ6.max
      unfold maxLen at hmx
      have eM : IntKind.i64.wrap (M : Int) = (M : Int) := IntWalk.i64_in _ (by omega)
      have tM : (((M : Int) + 1) != ((M : Int) + 1)) = false := by simp
      clear B6 R5 F5 f6 FW Fq hl6 HQ6
      go_wp2_with fail
      refine (own_n pdata ndata cdata data _ (H0data.out.keep0 F6) (by omega)).mono ?_
      rintro e w7 ⟨a7, c7, rfl, o7, f7⟩
      have S7 := Lib.hid (o7.sl_at H_data.out)
      have HB7 := Lib.hid (HB.out.keep (S' := []) f7 (by simp))
      have F7 := F6.trans f7
      clear o7 HB F6 f7
      go_wp2_with fail
      refine (implSHAKE128_any w7 a7 ndata c7 data S7.out K (by omega)).mono ?_
      rintro e w8 ⟨a8, c8, rfl, o8, f8⟩
      have S8 := Lib.hid (o8.sl_at (n := K) (xof_length _ _ _ _ _))
      have HB8 := Lib.hid (HB7.out.keep (S' := []) f8 (by simp))
      have F8 := F7.trans f8
      clear o8 HB7 F7 f8 S7
      by_cases hk0 : kk = 0
      · have tk : decide ((0 : Int) < (kk : Int)) = false := by simp; omega
        have e8 : Z = xof 168 32 31 data K := by rw [HZ.out, HQ.out, hk0]; exact isP0 data K
        have hkn : ¬ (0 : Int) < (kk : Int) := by omega
        have HE8 := Lib.hid e8
        clear e8 hk0
        go_wp2_with fail
        refine (tells_t w8 _ [] a6 (M + 1) c6 _ v6 M _ _ _ (xof 168 32 31 data K) HB8.out (by omega) S8.out (by rw [getD_last _ _ (by rw [wrR_len, pcs_len, HM.out, H_cuts.out])]; exact HE8.out)).mono ?_
        rintro e w9 ⟨rfl, f9⟩
        go_wp2_with fail
        all_goals first
          | (exfalso; omega)
          | exact ⟨⟨kk + 1, by omega, by simp, F8.trans f9⟩, by simp [intOf]; omega⟩
      · have tk : decide ((0 : Int) < (kk : Int)) = true := by simp; omega
        have e8 : Z = xof 136 64 31 data K := by
          rw [HZ.out, HQ.out]
          obtain rfl | rfl : kk = 1 ∨ kk = 2 := by omega
          · exact isP1 data K
          · exact isP1 data K
        have HE8 := Lib.hid e8
        have hkp : (0 : Int) < (kk : Int) := by omega
        clear e8 hk0
        go_wp2_with fail
        refine (own_n pdata ndata cdata data _ (H0data.out.keep0 F8) (by omega)).mono ?_
        rintro e w9 ⟨a9, c9, rfl, o9, f9⟩
        have S9 := Lib.hid (o9.sl_at H_data.out)
        have HB9 := Lib.hid (HB8.out.keep (S' := []) f9 (by simp))
        have F9 := F8.trans f9
        clear o9 HB8 F8 f9 S8
        go_wp2_with fail
        refine (implSHAKE256_any w9 a9 ndata c9 data S9.out K (by omega)).mono ?_
        rintro e w10 ⟨a10, c10, rfl, o10, f10⟩
        have S10 := Lib.hid (o10.sl_at (n := K) (xof_length _ _ _ _ _))
        have HB10 := Lib.hid (HB9.out.keep (S' := []) f10 (by simp))
        have F10 := F9.trans f10
        clear o10 HB9 F9 f10 S9
        go_wp2_with fail
        refine (tells_t w10 _ [] a6 (M + 1) c6 _ v6 M _ _ _ (xof 136 64 31 data K) HB10.out (by omega) S10.out (by rw [getD_last _ _ (by rw [wrR_len, pcs_len, HM.out, H_cuts.out])]; exact HE8.out)).mono ?_
        rintro e w11 ⟨rfl, f11⟩
        go_wp2_with fail
        all_goals first
          | (exfalso; omega)
          | exact ⟨⟨kk + 1, by omega, by simp, F10.trans f11⟩, by simp [intOf]; omega⟩
    · obtain rfl : kk = 3 := by omega
      go_wp2_with fail
      go_ret
      exact ⟨rfl, F0⟩
end Go.Proofs.Ytmainjpffaebfaa
end

section
namespace Go.Proofs.Ytmainjpffaebfaa.rFnXofIsSum
open Go.ChangeShapes Go.WideShapes Go.ChangeAt Go.RowKit Go.Sha
set_option linter.unusedVariables false

theorem own : ownKnob Try.prog.godebug = none := by kernel_rfl
theorem laidOut : laidOutB Try.prog = true := by kernel_rfl

set_option maxRecDepth 100000 in
theorem lifted (os : Os) (started : os.Started) (H : Type) (enc : TypeId × Value → H) (F : Stop.Interp) :
    ReturnsInHanded {} Try.checked os 7 .any ((Rows.OpenSpec.upto Rows.fnXofIsSumSpec).pre6 enc Try.prog Try.f7 Rows.fnXofIsSumUptoRow.domain false) (((Rows.OpenSpec.upto Rows.fnXofIsSumSpec).at F).post enc Try.prog Try.f7 false true false false) := by
  refine returnsInHanded_of_cond (C := Try.checked) (s := Rows.OpenSpec.upto Rows.fnXofIsSumSpec) (k := Rows.uptoSmall) rfl own started (by kernel_rfl) Try.func7
    (OpenSpec.witness (enc := enc) (C := Try.checked) (s := Rows.OpenSpec.upto Rows.fnXofIsSumSpec) (k := Rows.uptoSmall) rfl false ⟨#[], #[.slice none 0 0, .slice none 0 0, .int .u8 0], []⟩ 8 (by kernel_rfl) (by kernel_rfl) (by kernel_rfl)
      (x := ([.nil, .nil, .lit (.int .u8 0)], [], [])) (by kernel_rfl) rfl (by kernel_rfl)) ?_
  intro W base args ds gs before hval0 hW hcnd hk _
  have hval : ∀ (j : Nat) t v, Try.f7.params[j]? = some t → args[j]? = some v → Value.okWide Try.prog W .any base t v := hval0
  have hW' := hW
  obtain ⟨p, q, hA0, hV, rfl, hfz, hnd⟩ := hW
  have hA : DataW.TrodAll enc Try.prog W 0 (fun _ => true) true Try.f7.params.toList args.toList ds p := hA0
  rw [Try.params7] at hA hval
  obtain ⟨v0, vs0, d0, ds0, p0, q0, hargs, rfl, rfl, h0, r0⟩ := trodAll_cons hA
  obtain ⟨v1, vs1, d1, ds1, p1, q1, rfl, rfl, rfl, h1, r1⟩ := trodAll_cons r0
  obtain ⟨v2, vs2, d2, ds2, p2, q2, rfl, rfl, rfl, h2, r2⟩ := trodAll_cons r1
  obtain ⟨rfl, rfl, rfl⟩ := trodAll_nil r2
  obtain rfl : args = #[v0, v1, v2] := by cases args; simp_all
  obtain ⟨rfl, rfl⟩ := trodVars_none hV
  simp only [List.append_nil] at hk
  have hbk : Rows.uptoBulkAll [d0, d1, d2] ≤ 1048576 := of_decide_eq_true hk
  simp only [Rows.uptoBulkAll] at hbk
  obtain ⟨a0, len0, cap0, rfl⟩ := okWide_slice Try.underlying22 (hval 0 22 v0 rfl rfl)
  have k0 := h0
  have lt0 : ∀ x ∈ p0, x.block < W.heap.size := by obtain ⟨m, hm⟩ := k0; exact DataW.trod_lt m _ _ _ hm
  obtain ⟨fuel0, hf0⟩ := h0
  obtain ⟨l0, s0, dl0⟩ := open_bytes Try.underlying22 Try.underlying5 (by kernel_rfl) hf0
  have b0 := DLen_bulk dl0
  obtain ⟨a1, len1, cap1, rfl⟩ := okWide_slice Try.underlying22 (hval 1 22 v1 rfl rfl)
  have k1 := h1
  have lt1 : ∀ x ∈ p1, x.block < W.heap.size := by obtain ⟨m, hm⟩ := k1; exact DataW.trod_lt m _ _ _ hm
  obtain ⟨fuel1, hf1⟩ := h1
  obtain ⟨l1, s1, dl1⟩ := open_bytes Try.underlying22 Try.underlying5 (by kernel_rfl) hf1
  have b1 := DLen_bulk dl1
  obtain ⟨a2, rfl, rfl, rfl, w2⟩ := open_int Try.underlying5 (hval 2 5 v2 rfl rfl) h2
  have u2 := wf_u8 w2
  obtain ⟨m2, hm2⟩ : ∃ m : Nat, a2 = (m : Int) := ⟨a2.toNat, by omega⟩
  subst hm2
  simp only [Rows.uptoBulk] at hbk
  clear hA0 hval0
  refine (fnXofIsSum_walk a0 len0 cap0 l0 a1 len1 cap1 l1 m2 (by omega) W s0 (by omega) s1 (by omega)).mono fun e W' ⟨he, hfr⟩ => ?_
  have bel := hfr.below
  subst he
  exact ⟨_, rfl, _, _, _, [], _, [], hW', trodAll_mk1 (shut_bool Try.underlying4 _), (trodAll_cons_mk (Below.trod laidOut (by kernel_rfl) (of_decide_eq_true (by kernel_rfl)) k0 bel lt0) (trodAll_cons_mk (Below.trod laidOut (by kernel_rfl) (of_decide_eq_true (by kernel_rfl)) k1 bel lt1) (trodAll_cons_mk (shut_int Try.underlying5 w2) trodAll_mk0))), rfl, bel.frame _, fun h => by cases h⟩

theorem proved : Rows.FnXofIsSumUptoSaid :=
  OpenClaim.holds_of_cond 7 Try.f7 rfl rfl rfl rfl rfl rfl rfl ⟨rfl, rfl, rfl, rfl, rfl⟩ rfl rfl rfl rfl rfl (by kernel_rfl) Try.func7 (by kernel_rfl)
    (of_decide_eq_true (by kernel_rfl)) (by unfold Func.isWrapper; first | (rw [if_pos (by decide +kernel)]; kernel_rfl) | (rw [if_neg (by decide +kernel)]; exact ⟨rfl, rfl⟩))
    (fun os started H enc _ F => lifted os started H enc F)
#print axioms proved
end Go.Proofs.Ytmainjpffaebfaa.rFnXofIsSum
namespace Go.Proofs.Ytmainjpffaebfaa
theorem fnXofIsSum_holds : Rows.FnXofIsSumUptoSaid := rFnXofIsSum.proved
end Go.Proofs.Ytmainjpffaebfaa
end
