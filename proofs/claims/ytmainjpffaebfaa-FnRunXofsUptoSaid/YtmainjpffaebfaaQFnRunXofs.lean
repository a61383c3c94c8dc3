/- FnRunXofs: for every input of bulk at most 1048576 the law returns true, and each argument reads afterwards as it read before. The bound on the bulk is the given one. -/
import Derived.Test.YtmainjpffaebfaaGA
import Derived.Test.YtmainjpffaebfaaGB
import Derived.Test.YtmainjpffaebfaaGC
import Derived.Test.YtmainjpffaebfaaGD
import Derived.Test.YtmainjpffaebfaaGE
import Derived.Test.YtmainjpffaebfaaGF
import Derived.Test.YtmainjpffaebfaaGG
import Derived.Test.YtmainjpffaebfaaGH
import Derived.Test.YtmainjpffaebfaaGN
import Derived.Test.YtmainjpffaebfaaGQ
import Derived.Test.YtmainjpffaebfaaGS
import Derived.Test.YtmainjpffaebfaaGT
import Derived.Test.YtmainjpffaebfaaGX
import Derived.Test.YtmainjpffaebfaaGY
import Derived.Test.YtmainjpffaebfaaGXA
import Derived.Test.YtmainjpffaebfaaGXB
import Derived.Test.YtmainjpffaebfaaGXI
import Derived.Test.YtmainjpffaebfaaGXJ
import Derived.Test.YtmainjpffaebfaaGXC
import Derived.Test.YtmainjpffaebfaaGXK
import Derived.Test.YtmainjpffaebfaaGXD
import Derived.Test.YtmainjpffaebfaaGXG
import Derived.Test.YtmainjpffaebfaaGXF
import Derived.Test.YtmainjpffaebfaaGXH
import Derived.Test.YtmainjpffaebfaaGXR
import Derived.Test.YtmainjpffaebfaaGXO
import Derived.Test.YtmainjpffaebfaaGXQ
import Derived.Test.YtmainjpffaebfaaGXS
import Derived.Below
import Derived.ChangeOld
import Derived.ShutString
section
namespace Go.Proofs.Ytmainjpffaebfaa
open Go.ChangeShapes Go.WideShapes Go.ChangeAt Go.RowKit Go.Sha
theorem bulk_bytes (xs : List Actn) : xs.length + bytesA xs = actsBulk xs := by
  unfold bytesA actsBulk
  induction xs with
  | nil => rfl
  | cons x xs ih => simp only [List.map_cons, List.sum_cons, List.length_cons]; omega
set_option maxRecDepth 100000 in
set_option maxHeartbeats 1600000 in
theorem fnRunXofs_walk (kind : Int) (pname : Option Addr) (nname cname : Nat) (name : Bs) (pcustom : Option Addr) (ncustom ccustom : Nat) (custom : Bs) (a : Option Addr) (n c : Nat) (xs : List Actn) (w : World) (hname : Sl w pname nname cname name) (hnname : nname ≤ 1048576) (hcustom : Sl w pcustom ncustom ccustom custom) (hncustom : ncustom ≤ 1048576) (h : ActsAt w a n c xs) (hb : n + bytesA xs ≤ 1048576) :
    Calls Try.prog 6 #[.int .i64 kind, .slice pname nname cname, .slice pcustom ncustom ccustom, .slice a n c] w (RetB true w) := by
  have HN := Lib.hid hname
  have HC := Lib.hid hcustom
  have HA := Lib.hid h
  have hil : Hid ((xpOf (k5 kind) name custom).ini.length ≤ 4398046511104) := (xpOf_hd (k5 kind) name custom (by rw [hname.len]; omega) (by rw [hcustom.len]; omega)).il
  obtain ⟨p, hp⟩ : ∃ p, p = xpOf (k5 kind) name custom := ⟨_, rfl⟩
  have HP := Lib.hid hp
  clear hname hcustom h hp
  go_enter Try.func6, Try.ntmps6
  go_wp2_with fail
  refine (toActs_any w a n c xs HA.out (by omega)).mono ?_
  rintro e w1 ⟨a1, c1, v1, rfl, A1, F1⟩
  have H1 := Lib.hid A1.acts
  clear A1
  go_wp2_with fail
  refine (quiet_any w1 a1 n c1 xs H1.out).mono ?_
  rintro e w2 ⟨rfl, f2⟩
  have F2 := F1.trans f2
  have H2 := Lib.hid (H1.out.keep f2 (by simp))
  clear H1 F1 f2
  cases hq : xs.all quietB with
  | false =>
    go_wp2_with fail
    go_ret
    exact ⟨rfl, F2⟩
  | true =>
    have HQ : Hid (∀ x ∈ xs, quietA x) := fun x hx => (quietB_iff x).1 (List.all_eq_true.1 hq x hx)
    clear hq
    go_wp2_with fail
    refine (own_n pname nname cname name _ (HN.out.keep0 F2) (by omega)).mono ?_
    rintro e w3 ⟨a3, c3, rfl, O3, f3⟩
    have P3 := Lib.hid (O3.sl_at HN.out.len)
    have F3 := F2.trans f3
    have H3 := Lib.hid (H2.out.keep f3 (by simp))
    clear O3 f3 F2 H2
    go_wp2_with fail
    refine (own_n pcustom ncustom ccustom custom _ (HC.out.keep0 F3) (by omega)).mono ?_
    rintro e w4 ⟨a4, c4, rfl, O4, f4⟩
    have P4 := Lib.hid (O4.sl_at HC.out.len)
    replace P3 := Lib.hid (P3.out.keep0 f4)
    have F4 := F3.trans f4
    have H4 := Lib.hid (H3.out.keep f4 (by simp))
    clear O4 f4 F3 H3
    go_wp2_with fail
    refine (toActs_any w4 a n c xs (HA.out.keep F4 (by simp)) (by omega)).mono ?_
    rintro e w5 ⟨a5, c5, v5, rfl, A5, f5⟩
    have H5 := Lib.hid A5.acts
    replace P3 := Lib.hid (P3.out.keep0 f5)
    replace P4 := Lib.hid (P4.out.keep0 f5)
    have F5 := F4.trans f5
    have H45 := Lib.hid (H4.out.keep f5 (by simp))
    clear A5 f5 F4 H4
    have RX1 : Calls Try.prog 9 #[.int .i64 kind, .slice a3 nname c3, .slice a4 ncustom c4, .slice a5 n c5] w5 (RunXR (runX p xs) w5) := by
      rw [HP.out]
      exact runXofs_any w5 kind (⟨a3, nname, c3, name, a4, ncustom, c4, custom⟩ : NC) _ n c5 _ H5.out ⟨P3.out, P4.out, fun y hy hn => P3.out.lt hy hn, fun y hy hn => P4.out.lt hy hn⟩ (by show nname ≤ _; omega) (by show ncustom ≤ _; omega) (by omega) (fun x hx => by
        have h1 := bytesA_mem hx
        have h2 := hil.out
        show _ + (207 + (xpOf (k5 kind) name custom).ini.length) ≤ _
        omega)
    have HRX := Lib.hid RX1
    clear RX1
    go_wp2_with fail
    refine HRX.out.mono ?_
    rintro e w6 ⟨a6, c6, v6, rfl, B6, f6⟩
    rw [runX_runR p xs HQ.out] at B6 ⊢
    have HB6 := Lib.hid (RsI.read B6)
    have F6 := F5.trans f6
    have H6 := Lib.hid (H45.out.keep f6 (by simp))
    clear B6 f6 F5 H45 HRX P3 P4 H5
    obtain ⟨rs, hrs⟩ : ∃ rs, rs = runR p xs := ⟨_, rfl⟩
    have SR := specRunXofs_any w6 kind p pname pcustom nname cname ncustom ccustom name custom HP.out a1 n c1 xs H6.out (HN.out.keep0 F6) (HC.out.keep0 F6) hnname hncustom (by omega) (by omega) HQ.out
    rw [← hrs] at HB6 SR ⊢
    have HSR := Lib.hid SR
    clear hrs SR
    obtain ⟨m, hm⟩ : ∃ m, m = rs.length := ⟨_, rfl⟩
    rw [← hm] at HB6 ⊢
    have HM := Lib.hid hm
    clear hm
    go_wp2_with fail
    refine HSR.out.mono ?_
    rintro e w7 ⟨a7, c7, rfl, B7, f7⟩
    rw [← HM.out] at B7 ⊢
    have HB7 := Lib.hid B7
    have HB67 := Lib.hid (HB6.out.keep0 f7)
    have F7 := F6.trans f7
    clear B7 f7 F6 HB6 HSR
    go_wp2_with fail
    refine (sameResults_t w7 a6 a7 m c6 c7 rs HB67.out HB7.out).mono ?_
    rintro e w8 ⟨rfl, f8⟩
    go_wp2_with fail
    go_ret
    exact ⟨rfl, F7.trans f8⟩
end Go.Proofs.Ytmainjpffaebfaa
end

section
namespace Go.Proofs.Ytmainjpffaebfaa.rFnRunXofs
open Go.ChangeShapes Go.WideShapes Go.ChangeAt Go.RowKit Go.Sha
set_option linter.unusedVariables false

theorem own : ownKnob Try.prog.godebug = none := by kernel_rfl
theorem laidOut : laidOutB Try.prog = true := by kernel_rfl

set_option maxRecDepth 100000 in
theorem lifted (os : Os) (started : os.Started) (H : Type) (enc : TypeId × Value → H) (F : Stop.Interp) :
    ReturnsInHanded {} Try.checked os 6 .any ((Rows.OpenSpec.upto Rows.fnRunXofsSpec).pre6 enc Try.prog Try.f6 Rows.fnRunXofsUptoRow.domain false) (((Rows.OpenSpec.upto Rows.fnRunXofsSpec).at F).post enc Try.prog Try.f6 false true false false) := by
  refine returnsInHanded_of_cond (C := Try.checked) (s := Rows.OpenSpec.upto Rows.fnRunXofsSpec) (k := Rows.uptoSmall) rfl own started (by kernel_rfl) Try.func6
    (OpenSpec.witness (enc := enc) (C := Try.checked) (s := Rows.OpenSpec.upto Rows.fnRunXofsSpec) (k := Rows.uptoSmall) rfl false ⟨#[], #[.int .i64 0, .slice none 0 0, .slice none 0 0, .slice none 0 0], []⟩ 8 (by kernel_rfl) (by kernel_rfl) (by kernel_rfl)
      (x := ([.lit (.int .i64 0), .nil, .nil, .nil], [], [])) (by kernel_rfl) rfl (by kernel_rfl)) ?_
  intro W base args ds gs before hval0 hW hcnd hk _
  have hval : ∀ (j : Nat) t v, Try.f6.params[j]? = some t → args[j]? = some v → Value.okWide Try.prog W .any base t v := hval0
  have hW' := hW
  obtain ⟨p, q, hA0, hV, rfl, hfz, hnd⟩ := hW
  have hA : DataW.TrodAll enc Try.prog W 0 (fun _ => true) true Try.f6.params.toList args.toList ds p := hA0
  rw [Try.params6] at hA hval
  obtain ⟨v0, vs0, d0, ds0, p0, q0, hargs, rfl, rfl, h0, r0⟩ := trodAll_cons hA
  obtain ⟨v1, vs1, d1, ds1, p1, q1, rfl, rfl, rfl, h1, r1⟩ := trodAll_cons r0
  obtain ⟨v2, vs2, d2, ds2, p2, q2, rfl, rfl, rfl, h2, r2⟩ := trodAll_cons r1
  obtain ⟨v3, vs3, d3, ds3, p3, q3, rfl, rfl, rfl, h3, r3⟩ := trodAll_cons r2
  obtain ⟨rfl, rfl, rfl⟩ := trodAll_nil r3
  obtain rfl : args = #[v0, v1, v2, v3] := by cases args; simp_all
  obtain ⟨rfl, rfl⟩ := trodVars_none hV
  simp only [List.append_nil] at hk
  have hbk : Rows.uptoBulkAll [d0, d1, d2, d3] ≤ 1048576 := of_decide_eq_true hk
  simp only [Rows.uptoBulkAll] at hbk
  obtain ⟨a0, rfl, rfl, rfl, w0⟩ := open_int Try.underlying3 (hval 0 3 v0 rfl rfl) h0
  obtain ⟨a1, len1, cap1, rfl⟩ := okWide_slice Try.underlying22 (hval 1 22 v1 rfl rfl)
  have k1 := h1
  have lt1 : ∀ x ∈ p1, x.block < W.heap.size := by obtain ⟨m, hm⟩ := k1; exact DataW.trod_lt m _ _ _ hm
  obtain ⟨fuel1, hf1⟩ := h1
  obtain ⟨l1, s1, dl1⟩ := open_bytes Try.underlying22 Try.underlying5 (by kernel_rfl) hf1
  have b1 := DLen_bulk dl1
  obtain ⟨a2, len2, cap2, rfl⟩ := okWide_slice Try.underlying22 (hval 2 22 v2 rfl rfl)
  have k2 := h2
  have lt2 : ∀ x ∈ p2, x.block < W.heap.size := by obtain ⟨m, hm⟩ := k2; exact DataW.trod_lt m _ _ _ hm
  obtain ⟨fuel2, hf2⟩ := h2
  obtain ⟨l2, s2, dl2⟩ := open_bytes Try.underlying22 Try.underlying5 (by kernel_rfl) hf2
  have b2 := DLen_bulk dl2
  obtain ⟨a3, len3, cap3, rfl⟩ := okWide_slice Try.underlying40 (hval 3 40 v3 rfl rfl)
  have k3 := h3
  have lt3 : ∀ x ∈ p3, x.block < W.heap.size := by obtain ⟨m, hm⟩ := k3; exact DataW.trod_lt m _ _ _ hm
  obtain ⟨fuel3, hf3⟩ := h3
  obtain ⟨l3, st3⟩ := open_steps Try.underlying40 Try.underlying62 (by kernel_rfl) rfl rfl rfl rfl (by kernel_rfl) (by kernel_rfl) (by kernel_rfl) (by kernel_rfl) Try.underlying3 Try.underlying3 Try.underlying3 Try.underlying22 Try.underlying5 (by kernel_rfl) hf3
  have b3 := DSt_bulk st3.dat st3.len
  have al3 : ∀ x ∈ l3, x.data.length ≤ actsBulk l3 := fun x hx => actsBulk_mem hx
  have ll3 : len3 ≤ actsBulk l3 := by rw [← st3.len]; exact actsBulk_len _
  simp only [Rows.uptoBulk] at hbk
  clear hA0 hval0
  refine (fnRunXofs_walk a0 a1 len1 cap1 l1 a2 len2 cap2 l2 a3 len3 cap3 l3 W s1 (by omega) s2 (by omega) (st3.acts (fun i hi => by have := al3 _ (getD_memA st3.len i hi); omega)) (by have e := bulk_bytes l3; rw [st3.len] at e; omega)).mono fun e W' ⟨he, hfr⟩ => ?_
  have bel := hfr.below
  subst he
  exact ⟨_, rfl, _, _, _, [], _, [], hW', trodAll_mk1 (shut_bool Try.underlying4 _), (trodAll_cons_mk (shut_int Try.underlying3 w0) (trodAll_cons_mk (Below.trod laidOut (by kernel_rfl) (of_decide_eq_true (by kernel_rfl)) k1 bel lt1) (trodAll_cons_mk (Below.trod laidOut (by kernel_rfl) (of_decide_eq_true (by kernel_rfl)) k2 bel lt2) (trodAll_cons_mk (Below.trod laidOut (by kernel_rfl) (of_decide_eq_true (by kernel_rfl)) k3 bel lt3) trodAll_mk0)))), rfl, bel.frame _, fun h => by cases h⟩

theorem proved : Rows.FnRunXofsUptoSaid :=
  OpenClaim.holds_of_cond 6 Try.f6 rfl rfl rfl rfl rfl rfl rfl ⟨rfl, rfl, rfl, rfl, rfl⟩ rfl rfl rfl rfl rfl (by kernel_rfl) Try.func6 (by kernel_rfl)
    (of_decide_eq_true (by kernel_rfl)) (by unfold Func.isWrapper; first | (rw [if_pos (by decide +kernel)]; kernel_rfl) | (rw [if_neg (by decide +kernel)]; exact ⟨rfl, rfl⟩))
    (fun os started H enc _ F => lifted os started H enc F)
#print axioms proved
end Go.Proofs.Ytmainjpffaebfaa.rFnRunXofs
namespace Go.Proofs.Ytmainjpffaebfaa
theorem fnRunXofs_holds : Rows.FnRunXofsUptoSaid := rFnRunXofs.proved
end Go.Proofs.Ytmainjpffaebfaa
end
