/- FnOutputsOfLoaded: for every input the law returns true, and each argument reads afterwards as it read before. No condition. -/
import Derived.Test.YtkijnpjefccepaaGA
import Derived.Test.YtkijnpjefccepaaGB
import Derived.Test.YtkijnpjefccepaaGC
import Derived.Test.YtkijnpjefccepaaGG
import Derived.Test.YtkijnpjefccepaaGH
import Derived.Test.YtkijnpjefccepaaGN
import Derived.Test.YtkijnpjefccepaaGX
import Derived.Test.YtkijnpjefccepaaGY
import Derived.Test.YtkijnpjefccepaaGXA
import Derived.Test.YtkijnpjefccepaaGXB
import Derived.Test.YtkijnpjefccepaaGXI
import Derived.Test.YtkijnpjefccepaaGXJ
import Derived.Test.YtkijnpjefccepaaGXC
import Derived.Test.YtkijnpjefccepaaGXK
import Derived.Test.YtkijnpjefccepaaGXD
import Derived.Test.YtkijnpjefccepaaGXG
import Derived.Test.YtkijnpjefccepaaGXF
import Derived.Test.YtkijnpjefccepaaGXH
import Derived.Below
import Derived.ChangeOld
import Derived.Deep.RegionLaw
import Derived.ShutString
section
namespace Go.Proofs.Ytkijnpjefccepaa
open Go.ChangeShapes Go.WideShapes Go.ChangeAt Go.RowKit Go.Sha
/-- what the last statement reads -/
structure SXFnOutputsOfLoaded (w : World) (base : Nat) (ax : Option Addr) (nx cx : Nat) (rs : List Res) (vs : List (Option Addr × Nat)) (w' : World) : Prop where
  rs : RsI 32 5 w' base [] ax nx cx rs vs
  fr : Fr [] w w'
theorem SXFnOutputsOfLoaded.keep {w : World} {base : Nat} {ax : Option Addr} {nx cx : Nat} {rs : List Res} {vs : List (Option Addr × Nat)} {w1 w2 : World} (h : SXFnOutputsOfLoaded w base ax nx cx rs vs w1) (f : Fr [] w1 w2) : SXFnOutputsOfLoaded w base ax nx cx rs vs w2 :=
  ⟨h.rs.keep f (by simp), h.fr.trans f⟩
set_option maxRecDepth 100000 in
set_option maxHeartbeats 6000000 in
theorem fnOutputsOfLoaded_walk (kind : Int) (pname : Option Addr) (nname cname : Nat) (name : Bs) (pcustom : Option Addr) (ncustom ccustom : Nat) (custom : Bs) (pa : Option Addr) (na ca : Nat) (a : Bs) (n : Nat) (hun : n < 256) (w : World) (hname : Sl w pname nname cname name) (hnname : nname ≤ 140737488351232) (hcustom : Sl w pcustom ncustom ccustom custom) (hncustom : ncustom ≤ 140737488351232) (ha : Sl w pa na ca a) (hna : na ≤ 140737488351232) :
    Calls Try.prog 6 #[.int .i64 kind, .slice pname nname cname, .slice pcustom ncustom ccustom, .slice pa na ca, .int .u8 (n : Int)] w (RetB true w) := by
  have H_name := Lib.hid hname.len
  have Lname := H_name
  have H0name := Lib.hid hname
  clear hname
  have H_custom := Lib.hid hcustom.len
  have Lcustom := H_custom
  have H0custom := Lib.hid hcustom
  clear hcustom
  have H_a := Lib.hid ha.len
  have La := H_a
  have H0a := Lib.hid ha
  clear ha
  have cu0 : IntKind.i64.wrap (n : Int) = (n : Int) := IntWalk.i64_in _ (by omega)
  obtain ⟨K, hK⟩ : ∃ K, K = n + 1 := ⟨_, rfl⟩
  have hZK : (n : Int) + 1 = (K : Int) := by omega
  have hBK : K ≤ 1024 := by omega
  have hWK : IntKind.i64.wrap (K : Int) = (K : Int) := IntWalk.i64_in _ (by omega)
  have HK := Lib.hid hK
  clear hK
  go_enter Try.func6, Try.ntmps6
  go_wp2_with fail
  refine (own_n _ nname _ name _ H0name.out (by omega)).mono ?_
  rintro e wx ⟨a901, c901, rfl, O901, G⟩
  have Fx := G
  have P901 := Lib.hid (O901.sl_at H_name.out)
  clear O901 G
  go_wp2_with fail
  refine (own_n _ ncustom _ custom _ (H0custom.out.keep0 Fx) (by omega)).mono ?_
  rintro e wy ⟨a902, c902, rfl, O902, G⟩
  have F0 := Fx.trans G
  replace P901 := Lib.hid (P901.out.keep0 G)
  have P902 := Lib.hid (O902.sl_at H_custom.out)
  clear O902 G Fx
  go_wp2_with fail
  refine (lwrite_any 0 _ na _ a _ (H0a.out.keep0 F0) (by omega)).mono ?_
  rintro e w1 ⟨a1, c1, rfl, O1, G⟩
  have F1 := F0.trans G
  replace P901 := Lib.hid (P901.out.keep0 G)
  replace P902 := Lib.hid (P902.out.keep0 G)
  have P1 := Lib.hid (O1.sl_at H_a.out)
  clear O1 G
  go_wp2_with fail
  refine (lplain_any 7 0 _).mono ?_
  rintro e w2 ⟨rfl, G⟩
  have F2 := F1.trans G
  replace P901 := Lib.hid (P901.out.keep0 G)
  replace P902 := Lib.hid (P902.out.keep0 G)
  replace P1 := Lib.hid (P1.out.keep0 G)
  clear G
  go_wp2_with fail
  refine (lread_any 0 K _ (by omega)).mono ?_
  rintro e w3 ⟨a3, c3, rfl, O3, G⟩
  have F3 := F2.trans G
  replace P901 := Lib.hid (P901.out.keep0 G)
  replace P902 := Lib.hid (P902.out.keep0 G)
  replace P1 := Lib.hid (P1.out.keep0 G)
  have P3 := Lib.hid (O3.sl_at (n := K) List.length_replicate)
  clear O3 G
  go_wp2_with fail
  refine (lload_any 0 0 _).mono ?_
  rintro e w4 ⟨rfl, G⟩
  have F4 := F3.trans G
  replace P901 := Lib.hid (P901.out.keep0 G)
  replace P902 := Lib.hid (P902.out.keep0 G)
  replace P1 := Lib.hid (P1.out.keep0 G)
  replace P3 := Lib.hid (P3.out.keep0 G)
  clear G
  go_wp2_with fail
  refine (lread_any 0 K _ (by omega)).mono ?_
  rintro e w5 ⟨a5, c5, rfl, O5, G⟩
  have F5 := F4.trans G
  replace P901 := Lib.hid (P901.out.keep0 G)
  replace P902 := Lib.hid (P902.out.keep0 G)
  replace P1 := Lib.hid (P1.out.keep0 G)
  replace P3 := Lib.hid (P3.out.keep0 G)
  have P5 := Lib.hid (O5.sl_at (n := K) List.length_replicate)
  clear O5 G
  go_wp2_with fail
  have GA : Fr [] w5 (w5.alloc (.cells #[.int .i64 0, .int .i64 0, .int .i64 0, .slice a1 na c1, .int .i64 7, .int .i64 0, .int .i64 0, .slice none 0 0, .int .i64 1, .int .i64 0, .int .i64 0, .slice a3 K c3, .int .i64 9, .int .i64 0, .int .i64 0, .slice none 0 0, .int .i64 1, .int .i64 0, .int .i64 0, .slice a5 K c5] 27)) := (Fr.refl _ _).alloc _
  have AX : Hid (ActsAt (w5.alloc (.cells #[.int .i64 0, .int .i64 0, .int .i64 0, .slice a1 na c1, .int .i64 7, .int .i64 0, .int .i64 0, .slice none 0 0, .int .i64 1, .int .i64 0, .int .i64 0, .slice a3 K c3, .int .i64 9, .int .i64 0, .int .i64 0, .slice none 0 0, .int .i64 1, .int .i64 0, .int .i64 0, .slice a5 K c5] 27)) (some ⟨w5.heap.size, 0, none⟩) 5 5 (([(⟨0, 0, 0, a⟩, (a1, na, c1)), (⟨7, 0, 0, []⟩, (none, 0, 0)), (⟨1, 0, 0, List.replicate K (0 : UInt8)⟩, (a3, K, c3)), (⟨9, 0, 0, []⟩, (none, 0, 0)), (⟨1, 0, 0, List.replicate K (0 : UInt8)⟩, (a5, K, c5))] : List (Actn × (Option Addr × Nat × Nat))).map (·.1))) := ActsAt.of_list [(⟨0, 0, 0, a⟩, (a1, na, c1)), (⟨7, 0, 0, []⟩, (none, 0, 0)), (⟨1, 0, 0, List.replicate K (0 : UInt8)⟩, (a3, K, c3)), (⟨9, 0, 0, []⟩, (none, 0, 0)), (⟨1, 0, 0, List.replicate K (0 : UInt8)⟩, (a5, K, c5))] (Go.heap_alloc_new w5 _) (fun p hp => by
    simp only [List.mem_cons, List.not_mem_nil, or_false] at hp
    rcases hp with rfl | rfl | rfl | rfl | rfl
    · exact ⟨P1.out.keep0 GA, by simp only; omega⟩
    · exact ⟨Sl.nil0 _, by simp⟩
    · exact ⟨P3.out.keep0 GA, by simp only; omega⟩
    · exact ⟨Sl.nil0 _, by simp⟩
    · exact ⟨P5.out.keep0 GA, by simp only; omega⟩
    ) (by simp [maxLen])
  have FA := F5.trans GA
  replace P901 := Lib.hid (P901.out.keep0 GA)
  replace P902 := Lib.hid (P902.out.keep0 GA)
  generalize (w5.alloc (.cells #[.int .i64 0, .int .i64 0, .int .i64 0, .slice a1 na c1, .int .i64 7, .int .i64 0, .int .i64 0, .slice none 0 0, .int .i64 1, .int .i64 0, .int .i64 0, .slice a3 K c3, .int .i64 9, .int .i64 0, .int .i64 0, .slice none 0 0, .int .i64 1, .int .i64 0, .int .i64 0, .slice a5 K c5] 27)) = wA at AX FA P901 P902 ⊢
  clear GA P1 P3 P5
  obtain ⟨p, hp⟩ : ∃ p, p = xpOf (k5 kind) name custom := ⟨_, rfl⟩
  have RX1 : Calls Try.prog 15 #[.int .i64 kind, .slice a901 nname c901, .slice a902 ncustom c902, .slice (some ⟨w5.heap.size, 0, none⟩) 5 5] wA (RunXR (runX p [⟨0, 0, 0, a⟩, ⟨7, 0, 0, []⟩, ⟨1, 0, 0, List.replicate K (0 : UInt8)⟩, ⟨9, 0, 0, []⟩, ⟨1, 0, 0, List.replicate K (0 : UInt8)⟩]) wA) := by
   rw [hp]
   exact runXofs_anyS wA kind (⟨a901, nname, c901, name, a902, ncustom, c902, custom⟩ : NC) _ 5 5 _ AX.out ⟨P901.out, P902.out, fun y hy hn => P901.out.lt hy hn, fun y hy hn => P902.out.lt hy hn⟩ (by show nname ≤ _; omega) (by show ncustom ≤ _; omega) (by omega) (fun x hx hk => by
    simp only [List.mem_cons, List.not_mem_nil, or_false] at hx
    rcases hx with rfl | rfl | rfl | rfl | rfl
    all_goals simp at hk)
  have HRX := Lib.hid RX1
  clear RX1
  refine HRX.out.mono ?_
  rintro e wB ⟨aB, cB, vs, rfl, RB, GB⟩
  have FB := FA.trans GB
  clear AX FA GB HRX
  have hrs : runX p [⟨0, 0, 0, a⟩, ⟨7, 0, 0, []⟩, ⟨1, 0, 0, List.replicate K (0 : UInt8)⟩, ⟨9, 0, 0, []⟩, ⟨1, 0, 0, List.replicate K (0 : UInt8)⟩] = [⟨a.length, a, true, false⟩, ⟨0, [], true, false⟩, ⟨(List.replicate K (0 : UInt8)).length, xOut p ⟨p.hd ++ a, none⟩ (List.replicate K (0 : UInt8)).length, true, false⟩, ⟨0, [], true, false⟩, ⟨(List.replicate K (0 : UInt8)).length, xOut p ⟨p.hd ++ a, none⟩ (List.replicate K (0 : UInt8)).length, true, false⟩] := by kernel_rfl
  simp only [List.length_replicate] at hrs
  have hl : (runX p [⟨0, 0, 0, a⟩, ⟨7, 0, 0, []⟩, ⟨1, 0, 0, List.replicate K (0 : UInt8)⟩, ⟨9, 0, 0, []⟩, ⟨1, 0, 0, List.replicate K (0 : UInt8)⟩]).length = 5 := by rw [hrs]; rfl
  have RB' := RB
  rw [hl, hrs] at RB'
  rw [hl]
  clear hrs hl RB
  obtain ⟨g, hg, hc1, hc2, _⟩ := RB'.cells (by decide)
  subst hg
  unfold maxLen at hc2
  generalize hX0 : xOut p ⟨p.hd ++ a, none⟩ K = X0 at RB'
  have hl0 : X0.length = K := by rw [← hX0, xOut_length]
  clear hX0
  subst hl0
  have D0 : SXFnOutputsOfLoaded w wA.heap.size (some ⟨g, 0, none⟩) 5 cB [⟨a.length, a, true, false⟩, ⟨0, [], true, false⟩, ⟨X0.length, X0, true, false⟩, ⟨0, [], true, false⟩, ⟨X0.length, X0, true, false⟩] vs wB.drew := ⟨RB'.keep (S' := []) (Fr.refl _ _).drew (by simp), FB.drew⟩
  clear RB' FB
  go_wp2_with fail
  go_region_held3 (fun w' => w'.cell? ⟨g, 9, none⟩ = some (.slice (vs.getD 2 (none, 0)).1 (X0).length (vs.getD 2 (none, 0)).2) ∧ w'.cell? ⟨g, 14, none⟩ = some (.bool true) ∧ w'.cell? ⟨g, 17, none⟩ = some (.slice (vs.getD 4 (none, 0)).1 (X0).length (vs.getD 4 (none, 0)).2) ∧ SXFnOutputsOfLoaded w wA.heap.size (some ⟨g, 0, none⟩) 5 cB [⟨a.length, a, true, false⟩, ⟨0, [], true, false⟩, ⟨X0.length, X0, true, false⟩, ⟨0, [], true, false⟩, ⟨X0.length, X0, true, false⟩] vs w')
    (first | (exact ⟨RsI_cell D1.rs 2 1 (by decide) (by decide), RsI_cell D1.rs 3 2 (by decide) (by decide), RsI_cell D1.rs 4 1 (by decide) (by decide), D1⟩) | (exact ⟨RsI_cell D0.rs 2 1 (by decide) (by decide), RsI_cell D0.rs 3 2 (by decide) (by decide), RsI_cell D0.rs 4 1 (by decide) (by decide), D0⟩) | (go_keep))
    (first | (go_at_call 20; refine (same_t _ _ _ _ _ _ (X0) (X0) _ (RsI_sl D0.rs 2 (by decide)) (RsI_sl D0.rs 4 (by decide)) rfl).mono ?_; rintro e u1 ⟨rfl, f1⟩; have D1 := D0.keep f1))
  go_wp2_with fail
  go_ret
  exact ⟨by simp, D1.fr⟩
end Go.Proofs.Ytkijnpjefccepaa
end

section
namespace Go.Proofs.Ytkijnpjefccepaa.rFnOutputsOfLoaded
open Go.ChangeShapes Go.WideShapes Go.ChangeAt Go.RowKit Go.Sha
set_option linter.unusedVariables false

theorem own : ownKnob Try.prog.godebug = none := by kernel_rfl
theorem laidOut : laidOutB Try.prog = true := by kernel_rfl

set_option maxRecDepth 100000 in
theorem lifted (os : Os) (started : os.Started) (H : Type) (enc : TypeId × Value → H) :
    ReturnsInHanded {} Try.checked os 6 .any (Rows.fnOutputsOfLoadedSpec.pre6 enc Try.prog Try.f6 Rows.fnOutputsOfLoadedRow.domain false) (Rows.fnOutputsOfLoadedSpec.post enc Try.prog Try.f6 false true false false) := by
  refine returnsInHanded_of_change_sized (C := Try.checked) own started (by kernel_rfl) Try.func6
    (ChangeSpec.witness6 (enc := enc) (C := Try.checked) false ⟨#[], #[.int .i64 0, .slice none 0 0, .slice none 0 0, .slice none 0 0, .int .u8 0], []⟩ 8 (by kernel_rfl) (by kernel_rfl) (by kernel_rfl) (by kernel_rfl)) ?_
  intro W base args ds gs before hval0 hW hcnd hsz0 _
  have hsz : (DataW.weightsEach Try.prog (Try.f6.params.toList ++ Rows.fnOutputsOfLoadedSpec.plain.varTypes Try.prog) (ds ++ gs)).all (· ≤ reachBytes) = true := hsz0
  have hval : ∀ (j : Nat) t v, Try.f6.params[j]? = some t → args[j]? = some v → Value.okWide Try.prog W .any base t v := hval0
  have hW' := hW
  obtain ⟨p, q, hA0, hV, rfl, hfz, hnd⟩ := hW
  have hA : DataW.TrodAll enc Try.prog W 0 (fun _ => true) true Try.f6.params.toList args.toList ds p := hA0
  rw [Try.params6] at hA hval hsz
  obtain ⟨v0, vs0, d0, ds0, p0, q0, hargs, rfl, rfl, h0, r0⟩ := trodAll_cons hA
  obtain ⟨v1, vs1, d1, ds1, p1, q1, rfl, rfl, rfl, h1, r1⟩ := trodAll_cons r0
  obtain ⟨v2, vs2, d2, ds2, p2, q2, rfl, rfl, rfl, h2, r2⟩ := trodAll_cons r1
  obtain ⟨v3, vs3, d3, ds3, p3, q3, rfl, rfl, rfl, h3, r3⟩ := trodAll_cons r2
  obtain ⟨v4, vs4, d4, ds4, p4, q4, rfl, rfl, rfl, h4, r4⟩ := trodAll_cons r3
  obtain ⟨rfl, rfl, rfl⟩ := trodAll_nil r4
  obtain rfl : args = #[v0, v1, v2, v3, v4] := by cases args; simp_all
  obtain ⟨rfl, rfl⟩ := trodVars_none hV
  obtain ⟨a0, rfl, rfl, rfl, w0⟩ := open_int Try.underlying3 (hval 0 3 v0 rfl rfl) h0
  obtain ⟨a1, len1, cap1, rfl⟩ := okWide_slice Try.underlying22 (hval 1 22 v1 rfl rfl)
  have k1 := h1
  have lt1 : ∀ x ∈ p1, x.block < W.heap.size := by obtain ⟨m, hm⟩ := k1; exact DataW.trod_lt m _ _ _ hm
  obtain ⟨fuel1, hf1⟩ := h1
  obtain ⟨l1, s1, dl1⟩ := open_bytes Try.underlying22 Try.underlying5 (by kernel_rfl) hf1
  have b1 := (dl1.reach hsz (j := 1) rfl rfl Try.underlying22 (by kernel_rfl)).1
  obtain ⟨a2, len2, cap2, rfl⟩ := okWide_slice Try.underlying22 (hval 2 22 v2 rfl rfl)
  have k2 := h2
  have lt2 : ∀ x ∈ p2, x.block < W.heap.size := by obtain ⟨m, hm⟩ := k2; exact DataW.trod_lt m _ _ _ hm
  obtain ⟨fuel2, hf2⟩ := h2
  obtain ⟨l2, s2, dl2⟩ := open_bytes Try.underlying22 Try.underlying5 (by kernel_rfl) hf2
  have b2 := (dl2.reach hsz (j := 2) rfl rfl Try.underlying22 (by kernel_rfl)).1
  obtain ⟨a3, len3, cap3, rfl⟩ := okWide_slice Try.underlying22 (hval 3 22 v3 rfl rfl)
  have k3 := h3
  have lt3 : ∀ x ∈ p3, x.block < W.heap.size := by obtain ⟨m, hm⟩ := k3; exact DataW.trod_lt m _ _ _ hm
  obtain ⟨fuel3, hf3⟩ := h3
  obtain ⟨l3, s3, dl3⟩ := open_bytes Try.underlying22 Try.underlying5 (by kernel_rfl) hf3
  have b3 := (dl3.reach hsz (j := 3) rfl rfl Try.underlying22 (by kernel_rfl)).1
  obtain ⟨a4, rfl, rfl, rfl, w4⟩ := open_int Try.underlying5 (hval 4 5 v4 rfl rfl) h4
  have u4 := wf_u8 w4
  obtain ⟨m4, hm4⟩ : ∃ m : Nat, a4 = (m : Int) := ⟨a4.toNat, by omega⟩
  subst hm4
  clear hA0 hval0
  refine (fnOutputsOfLoaded_walk a0 a1 len1 cap1 l1 a2 len2 cap2 l2 a3 len3 cap3 l3 m4 (by omega) W s1 (by omega) s2 (by omega) s3 (by omega)).mono fun e W' ⟨he, hfr⟩ => ?_
  have bel := hfr.below
  subst he
  exact ⟨_, rfl, _, _, _, [], _, [], hW', trodAll_mk1 (shut_bool Try.underlying4 _), (trodAll_cons_mk (shut_int Try.underlying3 w0) (trodAll_cons_mk (Below.trod laidOut (by kernel_rfl) (of_decide_eq_true (by kernel_rfl)) k1 bel lt1) (trodAll_cons_mk (Below.trod laidOut (by kernel_rfl) (of_decide_eq_true (by kernel_rfl)) k2 bel lt2) (trodAll_cons_mk (Below.trod laidOut (by kernel_rfl) (of_decide_eq_true (by kernel_rfl)) k3 bel lt3) (trodAll_cons_mk (shut_int Try.underlying5 w4) trodAll_mk0))))), rfl, bel.frame _, fun h => by cases h⟩

theorem proved : Rows.FnOutputsOfLoadedSaid :=
  OpenClaim.holds_of_wide 6 Try.f6 rfl rfl rfl rfl rfl rfl rfl ⟨rfl, rfl, rfl, rfl, rfl⟩ rfl rfl rfl rfl rfl (by kernel_rfl) Try.func6 (by kernel_rfl)
    (of_decide_eq_true (by kernel_rfl)) (by unfold Func.isWrapper; first | (rw [if_pos (by decide +kernel)]; kernel_rfl) | (rw [if_neg (by decide +kernel)]; exact ⟨rfl, rfl⟩))
    (fun os started H enc _ => lifted os started H enc)
#print axioms proved
end Go.Proofs.Ytkijnpjefccepaa.rFnOutputsOfLoaded
namespace Go.Proofs.Ytkijnpjefccepaa
theorem fnOutputsOfLoaded_holds : Rows.FnOutputsOfLoadedSaid := rFnOutputsOfLoaded.proved
end Go.Proofs.Ytkijnpjefccepaa
end
