/- FnXofPanics: for every input the law returns true, and each argument reads afterwards as it read before. No condition. -/
import Derived.Test.YtkijnpjefccepaaGA
import Derived.Test.YtkijnpjefccepaaGB
import Derived.Test.YtkijnpjefccepaaGC
import Derived.Test.YtkijnpjefccepaaGG
import Derived.Test.YtkijnpjefccepaaGH
import Derived.Test.YtkijnpjefccepaaGN
import Derived.Test.YtkijnpjefccepaaGX
import Derived.Test.YtkijnpjefccepaaGY
import Derived.Test.YtkijnpjefccepaaGXA
import Derived.Test.YtkijnpjefccepaaGXB
import Derived.Test.YtkijnpjefccepaaGXI
import Derived.Test.YtkijnpjefccepaaGXJ
import Derived.Test.YtkijnpjefccepaaGXC
import Derived.Test.YtkijnpjefccepaaGXK
import Derived.Test.YtkijnpjefccepaaGXD
import Derived.Test.YtkijnpjefccepaaGXG
import Derived.Test.YtkijnpjefccepaaGXF
import Derived.Test.YtkijnpjefccepaaGXH
import Derived.Below
import Derived.ChangeOld
import Derived.Deep.RegionLaw
import Derived.ShutString
section
namespace Go.Proofs.Ytkijnpjefccepaa
open Go.ChangeShapes Go.WideShapes Go.ChangeAt Go.RowKit Go.Sha
set_option maxRecDepth 100000 in
set_option maxHeartbeats 6000000 in
theorem fnXofPanics_walk (kind : Int) (pname : Option Addr) (nname cname : Nat) (name : Bs) (pcustom : Option Addr) (ncustom ccustom : Nat) (custom : Bs) (pa : Option Addr) (na ca : Nat) (a : Bs) (pb : Option Addr) (nb cb : Nat) (b : Bs) (n : Nat) (hun : n < 256) (w : World) (hname : Sl w pname nname cname name) (hnname : nname ≤ 140737488351232) (hcustom : Sl w pcustom ncustom ccustom custom) (hncustom : ncustom ≤ 140737488351232) (ha : Sl w pa na ca a) (hna : na ≤ 140737488351232) (hb : Sl w pb nb cb b) (hnb : nb ≤ 140737488351232) :
    Calls Try.prog 4 #[.int .i64 kind, .slice pname nname cname, .slice pcustom ncustom ccustom, .slice pa na ca, .slice pb nb cb, .int .u8 (n : Int)] w (RetB true w) := by
  have H_name := Lib.hid hname.len
  have Lname := H_name
  have H0name := Lib.hid hname
  clear hname
  have H_custom := Lib.hid hcustom.len
  have Lcustom := H_custom
  have H0custom := Lib.hid hcustom
  clear hcustom
  have H_a := Lib.hid ha.len
  have La := H_a
  have H0a := Lib.hid ha
  clear ha
  have H_b := Lib.hid hb.len
  have Lb := H_b
  have H0b := Lib.hid hb
  clear hb
  have cu0 : IntKind.i64.wrap (n : Int) = (n : Int) := IntWalk.i64_in _ (by omega)
  obtain ⟨K, hK⟩ : ∃ K, K = n + 1 := ⟨_, rfl⟩
  have hZK : (n : Int) + 1 = (K : Int) := by omega
  have hBK : K ≤ 1024 := by omega
  have hWK : IntKind.i64.wrap (K : Int) = (K : Int) := IntWalk.i64_in _ (by omega)
  have HK := Lib.hid hK
  clear hK
  go_enter Try.func4, Try.ntmps4
  go_wp2_with fail
  refine (own_n _ nname _ name _ H0name.out (by omega)).mono ?_
  rintro e wx ⟨a901, c901, rfl, O901, G⟩
  have Fx := G
  have P901 := Lib.hid (O901.sl_at H_name.out)
  clear O901 G
  go_wp2_with fail
  refine (own_n _ ncustom _ custom _ (H0custom.out.keep0 Fx) (by omega)).mono ?_
  rintro e wy ⟨a902, c902, rfl, O902, G⟩
  have F0 := Fx.trans G
  replace P901 := Lib.hid (P901.out.keep0 G)
  have P902 := Lib.hid (O902.sl_at H_custom.out)
  clear O902 G Fx
  go_wp2_with fail
  refine (lwrite_any 0 _ na _ a _ (H0a.out.keep0 F0) (by omega)).mono ?_
  rintro e w1 ⟨a1, c1, rfl, O1, G⟩
  have F1 := F0.trans G
  replace P901 := Lib.hid (P901.out.keep0 G)
  replace P902 := Lib.hid (P902.out.keep0 G)
  have P1 := Lib.hid (O1.sl_at H_a.out)
  clear O1 G
  go_wp2_with fail
  refine (lread_any 0 K _ (by omega)).mono ?_
  rintro e w2 ⟨a2, c2, rfl, O2, G⟩
  have F2 := F1.trans G
  replace P901 := Lib.hid (P901.out.keep0 G)
  replace P902 := Lib.hid (P902.out.keep0 G)
  replace P1 := Lib.hid (P1.out.keep0 G)
  have P2 := Lib.hid (O2.sl_at (n := K) List.length_replicate)
  clear O2 G
  go_wp2_with fail
  refine (lwrite_any 0 _ nb _ b _ (H0b.out.keep0 F2) (by omega)).mono ?_
  rintro e w3 ⟨a3, c3, rfl, O3, G⟩
  have F3 := F2.trans G
  replace P901 := Lib.hid (P901.out.keep0 G)
  replace P902 := Lib.hid (P902.out.keep0 G)
  replace P1 := Lib.hid (P1.out.keep0 G)
  replace P2 := Lib.hid (P2.out.keep0 G)
  have P3 := Lib.hid (O3.sl_at H_b.out)
  clear O3 G
  go_wp2_with fail
  have GA : Fr [] w3 (w3.alloc (.cells #[.int .i64 0, .int .i64 0, .int .i64 0, .slice a1 na c1, .int .i64 1, .int .i64 0, .int .i64 0, .slice a2 K c2, .int .i64 0, .int .i64 0, .int .i64 0, .slice a3 nb c3] 27)) := (Fr.refl _ _).alloc _
  have AX : Hid (ActsAt (w3.alloc (.cells #[.int .i64 0, .int .i64 0, .int .i64 0, .slice a1 na c1, .int .i64 1, .int .i64 0, .int .i64 0, .slice a2 K c2, .int .i64 0, .int .i64 0, .int .i64 0, .slice a3 nb c3] 27)) (some ⟨w3.heap.size, 0, none⟩) 3 3 (([(⟨0, 0, 0, a⟩, (a1, na, c1)), (⟨1, 0, 0, List.replicate K (0 : UInt8)⟩, (a2, K, c2)), (⟨0, 0, 0, b⟩, (a3, nb, c3))] : List (Actn × (Option Addr × Nat × Nat))).map (·.1))) := ActsAt.of_list [(⟨0, 0, 0, a⟩, (a1, na, c1)), (⟨1, 0, 0, List.replicate K (0 : UInt8)⟩, (a2, K, c2)), (⟨0, 0, 0, b⟩, (a3, nb, c3))] (Go.heap_alloc_new w3 _) (fun p hp => by
    simp only [List.mem_cons, List.not_mem_nil, or_false] at hp
    rcases hp with rfl | rfl | rfl
    · exact ⟨P1.out.keep0 GA, by simp only; omega⟩
    · exact ⟨P2.out.keep0 GA, by simp only; omega⟩
    · exact ⟨P3.out.keep0 GA, by simp only; omega⟩
    ) (by simp [maxLen])
  have FA := F3.trans GA
  replace P901 := Lib.hid (P901.out.keep0 GA)
  replace P902 := Lib.hid (P902.out.keep0 GA)
  generalize (w3.alloc (.cells #[.int .i64 0, .int .i64 0, .int .i64 0, .slice a1 na c1, .int .i64 1, .int .i64 0, .int .i64 0, .slice a2 K c2, .int .i64 0, .int .i64 0, .int .i64 0, .slice a3 nb c3] 27)) = wA at AX FA P901 P902 ⊢
  clear GA P1 P2 P3
  obtain ⟨p, hp⟩ : ∃ p, p = xpOf (k5 kind) name custom := ⟨_, rfl⟩
  have RX1 : Calls Try.prog 15 #[.int .i64 kind, .slice a901 nname c901, .slice a902 ncustom c902, .slice (some ⟨w3.heap.size, 0, none⟩) 3 3] wA (RunXR (runX p [⟨0, 0, 0, a⟩, ⟨1, 0, 0, List.replicate K (0 : UInt8)⟩, ⟨0, 0, 0, b⟩]) wA) := by
   rw [hp]
   exact runXofs_anyS wA kind (⟨a901, nname, c901, name, a902, ncustom, c902, custom⟩ : NC) _ 3 3 _ AX.out ⟨P901.out, P902.out, fun y hy hn => P901.out.lt hy hn, fun y hy hn => P902.out.lt hy hn⟩ (by show nname ≤ _; omega) (by show ncustom ≤ _; omega) (by omega) (fun x hx hk => by
    simp only [List.mem_cons, List.not_mem_nil, or_false] at hx
    rcases hx with rfl | rfl | rfl
    all_goals simp at hk)
  have HRX := Lib.hid RX1
  clear RX1
  refine HRX.out.mono ?_
  rintro e wB ⟨aB, cB, vs, rfl, RB, GB⟩
  have FB := FA.trans GB
  clear AX FA GB HRX
  have hrs : runX p [⟨0, 0, 0, a⟩, ⟨1, 0, 0, List.replicate K (0 : UInt8)⟩, ⟨0, 0, 0, b⟩] = [⟨a.length, a, true, false⟩, ⟨(List.replicate K (0 : UInt8)).length, xOut p ⟨p.hd ++ a, none⟩ (List.replicate K (0 : UInt8)).length, true, false⟩, ⟨0, [], false, true⟩] := by kernel_rfl
  simp only [List.length_replicate] at hrs
  have hl : (runX p [⟨0, 0, 0, a⟩, ⟨1, 0, 0, List.replicate K (0 : UInt8)⟩, ⟨0, 0, 0, b⟩]).length = 3 := by rw [hrs]; rfl
  have RB' := RB
  rw [hl, hrs] at RB'
  rw [hl]
  clear hrs hl RB
  obtain ⟨g, hg, hc1, hc2, _⟩ := RB'.cells (by decide)
  subst hg
  unfold maxLen at hc2
  have q0 : wB.cell? ⟨g, 3, none⟩ = some (.bool false) := RsI_cell RB' 0 3 (by decide) (by decide)
  have q1 : wB.cell? ⟨g, 2, none⟩ = some (.bool true) := RsI_cell RB' 0 2 (by decide) (by decide)
  have q2 : wB.cell? ⟨g, 7, none⟩ = some (.bool false) := RsI_cell RB' 1 3 (by decide) (by decide)
  have q3 : wB.cell? ⟨g, 11, none⟩ = some (.bool true) := RsI_cell RB' 2 3 (by decide) (by decide)
  go_wp2_with fail
  go_ret
  exact ⟨rfl, FB⟩
end Go.Proofs.Ytkijnpjefccepaa
end

section
namespace Go.Proofs.Ytkijnpjefccepaa.rFnXofPanics
open Go.ChangeShapes Go.WideShapes Go.ChangeAt Go.RowKit Go.Sha
set_option linter.unusedVariables false

theorem own : ownKnob Try.prog.godebug = none := by kernel_rfl
theorem laidOut : laidOutB Try.prog = true := by kernel_rfl

set_option maxRecDepth 100000 in
theorem lifted (os : Os) (started : os.Started) (H : Type) (enc : TypeId × Value → H) :
    ReturnsInHanded {} Try.checked os 4 .any (Rows.fnXofPanicsSpec.pre6 enc Try.prog Try.f4 Rows.fnXofPanicsRow.domain false) (Rows.fnXofPanicsSpec.post enc Try.prog Try.f4 false true false false) := by
  refine returnsInHanded_of_change_sized (C := Try.checked) own started (by kernel_rfl) Try.func4
    (ChangeSpec.witness6 (enc := enc) (C := Try.checked) false ⟨#[], #[.int .i64 0, .slice none 0 0, .slice none 0 0, .slice none 0 0, .slice none 0 0, .int .u8 0], []⟩ 8 (by kernel_rfl) (by kernel_rfl) (by kernel_rfl) (by kernel_rfl)) ?_
  intro W base args ds gs before hval0 hW hcnd hsz0 _
  have hsz : (DataW.weightsEach Try.prog (Try.f4.params.toList ++ Rows.fnXofPanicsSpec.plain.varTypes Try.prog) (ds ++ gs)).all (· ≤ reachBytes) = true := hsz0
  have hval : ∀ (j : Nat) t v, Try.f4.params[j]? = some t → args[j]? = some v → Value.okWide Try.prog W .any base t v := hval0
  have hW' := hW
  obtain ⟨p, q, hA0, hV, rfl, hfz, hnd⟩ := hW
  have hA : DataW.TrodAll enc Try.prog W 0 (fun _ => true) true Try.f4.params.toList args.toList ds p := hA0
  rw [Try.params4] at hA hval hsz
  obtain ⟨v0, vs0, d0, ds0, p0, q0, hargs, rfl, rfl, h0, r0⟩ := trodAll_cons hA
  obtain ⟨v1, vs1, d1, ds1, p1, q1, rfl, rfl, rfl, h1, r1⟩ := trodAll_cons r0
  obtain ⟨v2, vs2, d2, ds2, p2, q2, rfl, rfl, rfl, h2, r2⟩ := trodAll_cons r1
  obtain ⟨v3, vs3, d3, ds3, p3, q3, rfl, rfl, rfl, h3, r3⟩ := trodAll_cons r2
  obtain ⟨v4, vs4, d4, ds4, p4, q4, rfl, rfl, rfl, h4, r4⟩ := trodAll_cons r3
  obtain ⟨v5, vs5, d5, ds5, p5, q5, rfl, rfl, rfl, h5, r5⟩ := trodAll_cons r4
  obtain ⟨rfl, rfl, rfl⟩ := trodAll_nil r5
  obtain rfl : args = #[v0, v1, v2, v3, v4, v5] := by cases args; simp_all
  obtain ⟨rfl, rfl⟩ := trodVars_none hV
  obtain ⟨a0, rfl, rfl, rfl, w0⟩ := open_int Try.underlying3 (hval 0 3 v0 rfl rfl) h0
  obtain ⟨a1, len1, cap1, rfl⟩ := okWide_slice Try.underlying22 (hval 1 22 v1 rfl rfl)
  have k1 := h1
  have lt1 : ∀ x ∈ p1, x.block < W.heap.size := by obtain ⟨m, hm⟩ := k1; exact DataW.trod_lt m _ _ _ hm
  obtain ⟨fuel1, hf1⟩ := h1
  obtain ⟨l1, s1, dl1⟩ := open_bytes Try.underlying22 Try.underlying5 (by kernel_rfl) hf1
  have b1 := (dl1.reach hsz (j := 1) rfl rfl Try.underlying22 (by kernel_rfl)).1
  obtain ⟨a2, len2, cap2, rfl⟩ := okWide_slice Try.underlying22 (hval 2 22 v2 rfl rfl)
  have k2 := h2
  have lt2 : ∀ x ∈ p2, x.block < W.heap.size := by obtain ⟨m, hm⟩ := k2; exact DataW.trod_lt m _ _ _ hm
  obtain ⟨fuel2, hf2⟩ := h2
  obtain ⟨l2, s2, dl2⟩ := open_bytes Try.underlying22 Try.underlying5 (by kernel_rfl) hf2
  have b2 := (dl2.reach hsz (j := 2) rfl rfl Try.underlying22 (by kernel_rfl)).1
  obtain ⟨a3, len3, cap3, rfl⟩ := okWide_slice Try.underlying22 (hval 3 22 v3 rfl rfl)
  have k3 := h3
  have lt3 : ∀ x ∈ p3, x.block < W.heap.size := by obtain ⟨m, hm⟩ := k3; exact DataW.trod_lt m _ _ _ hm
  obtain ⟨fuel3, hf3⟩ := h3
  obtain ⟨l3, s3, dl3⟩ := open_bytes Try.underlying22 Try.underlying5 (by kernel_rfl) hf3
  have b3 := (dl3.reach hsz (j := 3) rfl rfl Try.underlying22 (by kernel_rfl)).1
  obtain ⟨a4, len4, cap4, rfl⟩ := okWide_slice Try.underlying22 (hval 4 22 v4 rfl rfl)
  have k4 := h4
  have lt4 : ∀ x ∈ p4, x.block < W.heap.size := by obtain ⟨m, hm⟩ := k4; exact DataW.trod_lt m _ _ _ hm
  obtain ⟨fuel4, hf4⟩ := h4
  obtain ⟨l4, s4, dl4⟩ := open_bytes Try.underlying22 Try.underlying5 (by kernel_rfl) hf4
  have b4 := (dl4.reach hsz (j := 4) rfl rfl Try.underlying22 (by kernel_rfl)).1
  obtain ⟨a5, rfl, rfl, rfl, w5⟩ := open_int Try.underlying5 (hval 5 5 v5 rfl rfl) h5
  have u5 := wf_u8 w5
  obtain ⟨m5, hm5⟩ : ∃ m : Nat, a5 = (m : Int) := ⟨a5.toNat, by omega⟩
  subst hm5
  clear hA0 hval0
  refine (fnXofPanics_walk a0 a1 len1 cap1 l1 a2 len2 cap2 l2 a3 len3 cap3 l3 a4 len4 cap4 l4 m5 (by omega) W s1 (by omega) s2 (by omega) s3 (by omega) s4 (by omega)).mono fun e W' ⟨he, hfr⟩ => ?_
  have bel := hfr.below
  subst he
  exact ⟨_, rfl, _, _, _, [], _, [], hW', trodAll_mk1 (shut_bool Try.underlying4 _), (trodAll_cons_mk (shut_int Try.underlying3 w0) (trodAll_cons_mk (Below.trod laidOut (by kernel_rfl) (of_decide_eq_true (by kernel_rfl)) k1 bel lt1) (trodAll_cons_mk (Below.trod laidOut (by kernel_rfl) (of_decide_eq_true (by kernel_rfl)) k2 bel lt2) (trodAll_cons_mk (Below.trod laidOut (by kernel_rfl) (of_decide_eq_true (by kernel_rfl)) k3 bel lt3) (trodAll_cons_mk (Below.trod laidOut (by kernel_rfl) (of_decide_eq_true (by kernel_rfl)) k4 bel lt4) (trodAll_cons_mk (shut_int Try.underlying5 w5) trodAll_mk0)))))), rfl, bel.frame _, fun h => by cases h⟩

theorem proved : Rows.FnXofPanicsSaid :=
  OpenClaim.holds_of_wide 4 Try.f4 rfl rfl rfl rfl rfl rfl rfl ⟨rfl, rfl, rfl, rfl, rfl⟩ rfl rfl rfl rfl rfl (by kernel_rfl) Try.func4 (by kernel_rfl)
    (of_decide_eq_true (by kernel_rfl)) (by unfold Func.isWrapper; first | (rw [if_pos (by decide +kernel)]; kernel_rfl) | (rw [if_neg (by decide +kernel)]; exact ⟨rfl, rfl⟩))
    (fun os started H enc _ => lifted os started H enc)
#print axioms proved
end Go.Proofs.Ytkijnpjefccepaa.rFnXofPanics
namespace Go.Proofs.Ytkijnpjefccepaa
theorem fnXofPanics_holds : Rows.FnXofPanicsSaid := rFnXofPanics.proved
end Go.Proofs.Ytkijnpjefccepaa
end
