/- FnCutWrites: for every input of bulk at most 1048576 the law returns true, and each argument reads afterwards as it read before. The bound on the bulk is the given one. -/
import Derived.Test.YtfgfhdkedmgfiaaGA
import Derived.Test.YtfgfhdkedmgfiaaGB
import Derived.Test.YtfgfhdkedmgfiaaGC
import Derived.Test.YtfgfhdkedmgfiaaGD
import Derived.Test.YtfgfhdkedmgfiaaGE
import Derived.Test.YtfgfhdkedmgfiaaGF
import Derived.Test.YtfgfhdkedmgfiaaGG
import Derived.Test.YtfgfhdkedmgfiaaGH
import Derived.Test.YtfgfhdkedmgfiaaGN
import Derived.Test.YtfgfhdkedmgfiaaGS
import Derived.Test.YtfgfhdkedmgfiaaGT
import Derived.Test.YtfgfhdkedmgfiaaGU
import Derived.Test.YtfgfhdkedmgfiaaGO
import Derived.Test.YtfgfhdkedmgfiaaGP
import Derived.Test.YtfgfhdkedmgfiaaGI
import Derived.Test.YtfgfhdkedmgfiaaGK
import Derived.Test.YtfgfhdkedmgfiaaGV
import Derived.Test.YtfgfhdkedmgfiaaGL
import Derived.Test.YtfgfhdkedmgfiaaGJ
import Derived.Test.YtfgfhdkedmgfiaaGM
import Derived.Below
import Derived.ChangeOld
import Derived.ShutString
section
namespace Go.Proofs.Ytfgfhdkedmgfiaa
open Go.ChangeShapes Go.WideShapes Go.ChangeAt Go.RowKit Go.Sha
set_option maxRecDepth 100000 in
set_option maxHeartbeats 4000000 in
theorem fnCutWrites_walk (kind : Int) (pdata : Option Addr) (ndata cdata : Nat) (data : Bs) (pcuts : Option Addr) (ncuts ccuts : Nat) (cuts : Bs) (w : World) (hdata : Sl w pdata ndata cdata data) (hndata : ndata ≤ 1048576) (hcuts : Sl w pcuts ncuts ccuts cuts) (hncuts : ncuts ≤ 1048576) :
    Calls Try.prog 4 #[.int .i64 kind, .slice pdata ndata cdata, .slice pcuts ncuts ccuts] w (RetB true w) := by
  have H_data := Lib.hid hdata.len
  have H0data := Lib.hid hdata
  clear hdata
  have H_cuts := Lib.hid hcuts.len
  have H0cuts := Lib.hid hcuts
  clear hcuts
  obtain ⟨i0, hi0, hz0, hz1, hz2⟩ := info_parts infoAP
  have HHD := Lib.hid (hashed_any kind)
  obtain ⟨r, hr⟩ : ∃ r, r = rOf (k5 kind) := ⟨_, rfl⟩
  obtain ⟨o, ho⟩ : ∃ o, o = oOf (k5 kind) := ⟨_, rfl⟩
  rw [← hr, ← ho] at HHD
  have HRO := Lib.hid (And.intro hr ho)
  have FW := Fr.refl [] w
  clear hr ho
  go_enter Try.func4, Try.ntmps4
  go_wp2_with fail
  refine (pieces_any w pdata pcuts ndata cdata ncuts ccuts data cuts (H0data.out.keep0 FW) (H0cuts.out.keep0 FW) (by omega) (by omega)).mono ?_
  rintro e w1 ⟨ao, co, vs, rfl, A1, Fq⟩
  obtain ⟨M, hM⟩ : ∃ M, M = ncuts + 1 := ⟨_, rfl⟩
  rw [← hM] at A1 ⊢
  have HR := Lib.hid A1
  have bM : M ≤ 1048577 := by omega
  have HM := Lib.hid hM
  have HK := Lib.hid (show ([] : Bs).length = 0 by simp)
  clear A1 hM
  go_wp2_with fail
  refine (lask_any 0 _ 0 _ [] _ (Sl.nil0 _) (by omega)).mono ?_
  rintro e w3 ⟨a3, c3, rfl, O3, f3⟩
  have R3 := Lib.hid (HR.out.keep0 f3)
  have HO3 := Lib.hid (O3.sl_at (n := 0) HK.out)
  have HN3 : Hid (∀ y, a3 = some y → 0 ≠ 0 → ∀ z, ao = some z → y.block ≠ z.block) := (fun y hy _ z hz => by
    have h1 : w1.heap.size ≤ y.block := by subst hy; exact O3.block.2.2.1
    have h2 := (ownsRow_lt HR.out.row (show (Value.slice ao M co).ownBlock = some z.block by rw [hz]; rfl)).2
    omega)
  have F3 := Fq.trans f3
  have Y4 : Hid (Src Try.prog 4 29 (.slice (some ⟨w3.heap.size, 0, none⟩) 1 1) 1 (acCells (⟨1, 0, 0, ([] : Bs)⟩, (a3, 0, c3))) (w3.alloc (.cells #[.int .i64 1, .int .i64 0, .int .i64 0, .slice a3 0 c3] 26))) := Src_act Try.underlying29 ⟨1, 0, 0, ([] : Bs)⟩ (a3, 0, c3) 26
  obtain ⟨XS, hXS⟩ : ∃ XS, XS = ((wrs (pcs data cuts)).zip vs).flatMap acCells := ⟨_, rfl⟩
  obtain ⟨YS, hYS⟩ : ∃ YS, YS = acCells (⟨1, 0, 0, ([] : Bs)⟩, (a3, 0, c3)) := ⟨_, rfl⟩
  have f4 : Fr [] w3 (w3.alloc (.cells #[.int .i64 1, .int .i64 0, .int .i64 0, .slice a3 0 c3] 26)) := (Fr.refl _ _).alloc _
  have O4 : Hid ((w3.alloc (.cells #[.int .i64 1, .int .i64 0, .int .i64 0, .slice a3 0 c3] 26)).ownsRow w.heap.size 26 4 (.slice ao M co) M XS) := by rw [hXS]; exact (R3.out.keep0 f4).row
  rw [← hYS] at Y4
  have X1 : Hid (M + 1 ≤ maxLen) := by show _ ≤ _; unfold maxLen; omega
  have X2 : Hid ((M + 1) * 48 ≤ 140737488355328) := by show _ ≤ _; omega
  have X3 : Hid (w.heap.size ≤ (w3.alloc (.cells #[.int .i64 1, .int .i64 0, .int .i64 0, .slice a3 0 c3] 26)).heap.size) := by show _ ≤ _; have := F3.size; simp; omega
  have HXY := Lib.hid (And.intro hXS hYS)
  clear hXS hYS O3 f3
  go_wp2_with (at_builtin; refine wpList_append_srcN _ rfl _ _ 29 29 rfl w.heap.size 26 i0 (.agg #[.int .i64 0, .int .i64 0, .int .i64 0, .slice none 0 0]) 4 48 Try.underlying29 hi0 hz0 hz1 hz2 rfl ao (M) co XS rfl O4.out _ 1 YS rfl Y4.out X1.out X2.out X3.out ?_)
  intro a5 c5 w5 ho5 hg5 ha5
  have f5 : Fr (blkOf ao) (w3.alloc (.cells #[.int .i64 1, .int .i64 0, .int .i64 0, .slice a3 0 c3] 26)) w5 := by
    rw [← ownBlock_blkOf ao (M) co]
    exact (Fr.refl _ _).grown hg5 (fun q hq => by rw [hq]; exact .inr (by simp))
  have R5 := Lib.hid (R3.out.push (x := ⟨1, 0, 0, ([] : Bs)⟩) (v := (a3, 0, c3)) f4 HO3.out (show 0 ≤ 140737488351232 by omega) HN3.out (by rw [← HXY.out.1, ← HXY.out.2]; exact ho5) hg5 (by simpa using ha5))
  have F5 := Lib.hid ((F3.trans f4).via f5 (fun q hq => by
    obtain ⟨z, hz, e⟩ := mem_blkOf.1 hq
    rw [← e]
    exact (ownsRow_lt R3.out.row (show (Value.slice ao (M) co).ownBlock = some z.block by rw [hz]; rfl)).1))
  have HA5 : Hid (∀ z, a5 = some z → ao = some z ∨ w3.heap.size ≤ z.block) := (fun z hz => by
    have ha5' : a5 = ao ∨ a5 = some ⟨(w3.alloc (.cells #[.int .i64 1, .int .i64 0, .int .i64 0, .slice a3 0 c3] 26)).heap.size, 0, none⟩ := by simpa using ha5
    rcases ha5' with h | h
    · left; rw [← h]; exact hz
    · right; rw [h] at hz; have := Option.some.inj hz; rw [← this]; simp)
  clear ho5 hg5 ha5 f5 f4 F3 O4 Y4 X1 X2 X3 HR R3 HO3 HN3 HXY HA5
  go_wp2_with fail
  refine (runHashes_any w5 kind a5 (M + 1) c5 _ R5.out.acts (by omega)).mono ?_
  rintro e w6 ⟨a6, c6, v6, rfl, B6, f6⟩
  rw [← HRO.out.1, ← HRO.out.2, runH_ask, pcs_flat, List.nil_append] at B6
  have F6 := (FW.trans F5.out).trans f6
  have HB := Lib.hid B6
  have HQ6 := RsI.read B6
  have hcap := HQ6.cap
  have hmx := HQ6.max
  unfold maxLen at hmx
  have eM : IntKind.i64.wrap (M : Int) = (M : Int) := IntWalk.i64_in _ (by omega)
  have tM : (((M : Int) + 1) == ((M : Int) + 1)) = true := by simp
  clear B6 R5 F5 f6 FW Fq HQ6
  go_wp2_with fail
  refine (HHD.out _ ndata _ data _ (H0data.out.keep0 F6) (by omega)).mono ?_
  rintro e w7 ⟨b7, d7, rfl, o7, f7⟩
  have Z7 := Lib.hid o7.sl
  have HB7 := Lib.hid (HB.out.keep (S' := []) f7 (by simp))
  clear o7 HB
  go_wp2_with fail
  refine (tells_t w7 _ [] a6 (M + 1) c6 _ v6 M _ _ _ (hsum r o data) HB7.out (by omega) Z7.out (by rw [getD_last _ _ (by rw [wrR_len, pcs_len, HM.out, H_cuts.out])])).mono ?_
  rintro e w8 ⟨rfl, f8⟩
  go_wp2_with fail
  go_ret
  exact ⟨rfl, (F6.trans f7).trans f8⟩
end Go.Proofs.Ytfgfhdkedmgfiaa
end

section
namespace Go.Proofs.Ytfgfhdkedmgfiaa.rFnCutWrites
open Go.ChangeShapes Go.WideShapes Go.ChangeAt Go.RowKit Go.Sha
set_option linter.unusedVariables false

theorem own : ownKnob Try.prog.godebug = none := by kernel_rfl
theorem laidOut : laidOutB Try.prog = true := by kernel_rfl

set_option maxRecDepth 100000 in
theorem lifted (os : Os) (started : os.Started) (H : Type) (enc : TypeId × Value → H) (F : Stop.Interp) :
    ReturnsInHanded {} Try.checked os 4 .any ((Rows.OpenSpec.upto Rows.fnCutWritesSpec).pre6 enc Try.prog Try.f4 Rows.fnCutWritesUptoRow.domain false) (((Rows.OpenSpec.upto Rows.fnCutWritesSpec).at F).post enc Try.prog Try.f4 false true false false) := by
  refine returnsInHanded_of_cond (C := Try.checked) (s := Rows.OpenSpec.upto Rows.fnCutWritesSpec) (k := Rows.uptoSmall) rfl own started (by kernel_rfl) Try.func4
    (OpenSpec.witness (enc := enc) (C := Try.checked) (s := Rows.OpenSpec.upto Rows.fnCutWritesSpec) (k := Rows.uptoSmall) rfl false ⟨#[], #[.int .i64 0, .slice none 0 0, .slice none 0 0], []⟩ 8 (by kernel_rfl) (by kernel_rfl) (by kernel_rfl)
      (x := ([.lit (.int .i64 0), .nil, .nil], [], [])) (by kernel_rfl) rfl (by kernel_rfl)) ?_
  intro W base args ds gs before hval0 hW hcnd hk _
  have hval : ∀ (j : Nat) t v, Try.f4.params[j]? = some t → args[j]? = some v → Value.okWide Try.prog W .any base t v := hval0
  have hW' := hW
  obtain ⟨p, q, hA0, hV, rfl, hfz, hnd⟩ := hW
  have hA : DataW.TrodAll enc Try.prog W 0 (fun _ => true) true Try.f4.params.toList args.toList ds p := hA0
  rw [Try.params4] at hA hval
  obtain ⟨v0, vs0, d0, ds0, p0, q0, hargs, rfl, rfl, h0, r0⟩ := trodAll_cons hA
  obtain ⟨v1, vs1, d1, ds1, p1, q1, rfl, rfl, rfl, h1, r1⟩ := trodAll_cons r0
  obtain ⟨v2, vs2, d2, ds2, p2, q2, rfl, rfl, rfl, h2, r2⟩ := trodAll_cons r1
  obtain ⟨rfl, rfl, rfl⟩ := trodAll_nil r2
  obtain rfl : args = #[v0, v1, v2] := by cases args; simp_all
  obtain ⟨rfl, rfl⟩ := trodVars_none hV
  simp only [List.append_nil] at hk
  have hbk : Rows.uptoBulkAll [d0, d1, d2] ≤ 1048576 := of_decide_eq_true hk
  simp only [Rows.uptoBulkAll] at hbk
  obtain ⟨a0, rfl, rfl, rfl, w0⟩ := open_int Try.underlying3 (hval 0 3 v0 rfl rfl) h0
  obtain ⟨a1, len1, cap1, rfl⟩ := okWide_slice Try.underlying22 (hval 1 22 v1 rfl rfl)
  have k1 := h1
  have lt1 : ∀ x ∈ p1, x.block < W.heap.size := by obtain ⟨m, hm⟩ := k1; exact DataW.trod_lt m _ _ _ hm
  obtain ⟨fuel1, hf1⟩ := h1
  obtain ⟨l1, s1, dl1⟩ := open_bytes Try.underlying22 Try.underlying5 (by kernel_rfl) hf1
  have b1 := DLen_bulk dl1
  obtain ⟨a2, len2, cap2, rfl⟩ := okWide_slice Try.underlying22 (hval 2 22 v2 rfl rfl)
  have k2 := h2
  have lt2 : ∀ x ∈ p2, x.block < W.heap.size := by obtain ⟨m, hm⟩ := k2; exact DataW.trod_lt m _ _ _ hm
  obtain ⟨fuel2, hf2⟩ := h2
  obtain ⟨l2, s2, dl2⟩ := open_bytes Try.underlying22 Try.underlying5 (by kernel_rfl) hf2
  have b2 := DLen_bulk dl2
  simp only [Rows.uptoBulk] at hbk
  clear hA0 hval0
  refine (fnCutWrites_walk a0 a1 len1 cap1 l1 a2 len2 cap2 l2 W s1 (by omega) s2 (by omega)).mono fun e W' ⟨he, hfr⟩ => ?_
  have bel := hfr.below
  subst he
  exact ⟨_, rfl, _, _, _, [], _, [], hW', trodAll_mk1 (shut_bool Try.underlying4 _), (trodAll_cons_mk (shut_int Try.underlying3 w0) (trodAll_cons_mk (Below.trod laidOut (by kernel_rfl) (of_decide_eq_true (by kernel_rfl)) k1 bel lt1) (trodAll_cons_mk (Below.trod laidOut (by kernel_rfl) (of_decide_eq_true (by kernel_rfl)) k2 bel lt2) trodAll_mk0))), rfl, bel.frame _, fun h => by cases h⟩

theorem proved : Rows.FnCutWritesUptoSaid :=
  OpenClaim.holds_of_cond 4 Try.f4 rfl rfl rfl rfl rfl rfl rfl ⟨rfl, rfl, rfl, rfl, rfl⟩ rfl rfl rfl rfl rfl (by kernel_rfl) Try.func4 (by kernel_rfl)
    (of_decide_eq_true (by kernel_rfl)) (by unfold Func.isWrapper; first | (rw [if_pos (by decide +kernel)]; kernel_rfl) | (rw [if_neg (by decide +kernel)]; exact ⟨rfl, rfl⟩))
    (fun os started H enc _ F => lifted os started H enc F)
#print axioms proved
end Go.Proofs.Ytfgfhdkedmgfiaa.rFnCutWrites
namespace Go.Proofs.Ytfgfhdkedmgfiaa
theorem fnCutWrites_holds : Rows.FnCutWritesUptoSaid := rFnCutWrites.proved
end Go.Proofs.Ytfgfhdkedmgfiaa
end
