/- FnXofBlocks: for every input the law returns true, and each argument reads afterwards as it read before. No condition. -/
import Derived.Test.YtkijnpjefccepaaGA
import Derived.Test.YtkijnpjefccepaaGB
import Derived.Test.YtkijnpjefccepaaGC
import Derived.Test.YtkijnpjefccepaaGG
import Derived.Test.YtkijnpjefccepaaGH
import Derived.Test.YtkijnpjefccepaaGN
import Derived.Test.YtkijnpjefccepaaGX
import Derived.Test.YtkijnpjefccepaaGY
import Derived.Test.YtkijnpjefccepaaGXA
import Derived.Test.YtkijnpjefccepaaGXB
import Derived.Test.YtkijnpjefccepaaGXI
import Derived.Test.YtkijnpjefccepaaGXJ
import Derived.Test.YtkijnpjefccepaaGXC
import Derived.Test.YtkijnpjefccepaaGXK
import Derived.Test.YtkijnpjefccepaaGXD
import Derived.Test.YtkijnpjefccepaaGXG
import Derived.Test.YtkijnpjefccepaaGXF
import Derived.Test.YtkijnpjefccepaaGXH
import Derived.Test.YtkijnpjefccepaaGXO
import Derived.Below
import Derived.ChangeOld
import Derived.Deep.RegionLaw
import Derived.ShutString
section
namespace Go.Proofs.Ytkijnpjefccepaa
open Go.ChangeShapes Go.WideShapes Go.ChangeAt Go.RowKit Go.Sha
/-- what the last statement reads -/
structure SXFnXofBlocks (w : World) (base : Nat) (ax : Option Addr) (nx cx : Nat) (rs : List Res) (vs : List (Option Addr × Nat)) (w' : World) : Prop where
  rs : RsI 32 5 w' base [] ax nx cx rs vs
  fr : Fr [] w w'
theorem SXFnXofBlocks.keep {w : World} {base : Nat} {ax : Option Addr} {nx cx : Nat} {rs : List Res} {vs : List (Option Addr × Nat)} {w1 w2 : World} (h : SXFnXofBlocks w base ax nx cx rs vs w1) (f : Fr [] w1 w2) : SXFnXofBlocks w base ax nx cx rs vs w2 :=
  ⟨h.rs.keep f (by simp), h.fr.trans f⟩
set_option maxRecDepth 100000 in
set_option maxHeartbeats 6000000 in
theorem fnXofBlocks_walk (kind : Int) (pname : Option Addr) (nname cname : Nat) (name : Bs) (pcustom : Option Addr) (ncustom ccustom : Nat) (custom : Bs) (pdata : Option Addr) (ndata cdata : Nat) (data : Bs)  (w : World) (hname : Sl w pname nname cname name) (hnname : nname ≤ 140737488351232) (hcustom : Sl w pcustom ncustom ccustom custom) (hncustom : ncustom ≤ 140737488351232) (hdata : Sl w pdata ndata cdata data) (hndata : ndata ≤ 140737488351232) :
    Calls Try.prog 5 #[.int .i64 kind, .slice pname nname cname, .slice pcustom ncustom ccustom, .slice pdata ndata cdata] w (RetB true w) := by
  have H_name := Lib.hid hname.len
  have Lname := H_name
  have H0name := Lib.hid hname
  clear hname
  have H_custom := Lib.hid hcustom.len
  have Lcustom := H_custom
  have H0custom := Lib.hid hcustom
  clear hcustom
  have H_data := Lib.hid hdata.len
  have Ldata := H_data
  have H0data := Lib.hid hdata
  clear hdata
  go_enter Try.func5, Try.ntmps5
  go_wp2_with fail
  refine (own_n _ nname _ name _ H0name.out (by omega)).mono ?_
  rintro e wx ⟨a901, c901, rfl, O901, G⟩
  have Fx := G
  have P901 := Lib.hid (O901.sl_at H_name.out)
  clear O901 G
  go_wp2_with fail
  refine (own_n _ ncustom _ custom _ (H0custom.out.keep0 Fx) (by omega)).mono ?_
  rintro e wy ⟨a902, c902, rfl, O902, G⟩
  have F0 := Fx.trans G
  replace P901 := Lib.hid (P901.out.keep0 G)
  have P902 := Lib.hid (O902.sl_at H_custom.out)
  clear O902 G Fx
  go_wp2_with fail
  refine (lplain_any 4 0 _).mono ?_
  rintro e w1 ⟨rfl, G⟩
  have F1 := F0.trans G
  replace P901 := Lib.hid (P901.out.keep0 G)
  replace P902 := Lib.hid (P902.out.keep0 G)
  clear G
  go_wp2_with fail
  refine (lwrite_any 0 _ ndata _ data _ (H0data.out.keep0 F1) (by omega)).mono ?_
  rintro e w2 ⟨a2, c2, rfl, O2, G⟩
  have F2 := F1.trans G
  replace P901 := Lib.hid (P901.out.keep0 G)
  replace P902 := Lib.hid (P902.out.keep0 G)
  have P2 := Lib.hid (O2.sl_at H_data.out)
  clear O2 G
  go_wp2_with fail
  refine (lread_any 0 1 _ (by omega)).mono ?_
  rintro e w3 ⟨a3, c3, rfl, O3, G⟩
  have F3 := F2.trans G
  replace P901 := Lib.hid (P901.out.keep0 G)
  replace P902 := Lib.hid (P902.out.keep0 G)
  replace P2 := Lib.hid (P2.out.keep0 G)
  have P3 := Lib.hid (O3.sl_at (n := 1) List.length_replicate)
  clear O3 G
  go_wp2_with fail
  refine (lplain_any 4 0 _).mono ?_
  rintro e w4 ⟨rfl, G⟩
  have F4 := F3.trans G
  replace P901 := Lib.hid (P901.out.keep0 G)
  replace P902 := Lib.hid (P902.out.keep0 G)
  replace P2 := Lib.hid (P2.out.keep0 G)
  replace P3 := Lib.hid (P3.out.keep0 G)
  clear G
  go_wp2_with fail
  have GA : Fr [] w4 (w4.alloc (.cells #[.int .i64 4, .int .i64 0, .int .i64 0, .slice none 0 0, .int .i64 0, .int .i64 0, .int .i64 0, .slice a2 ndata c2, .int .i64 1, .int .i64 0, .int .i64 0, .slice a3 1 c3, .int .i64 4, .int .i64 0, .int .i64 0, .slice none 0 0] 27)) := (Fr.refl _ _).alloc _
  have AX : Hid (ActsAt (w4.alloc (.cells #[.int .i64 4, .int .i64 0, .int .i64 0, .slice none 0 0, .int .i64 0, .int .i64 0, .int .i64 0, .slice a2 ndata c2, .int .i64 1, .int .i64 0, .int .i64 0, .slice a3 1 c3, .int .i64 4, .int .i64 0, .int .i64 0, .slice none 0 0] 27)) (some ⟨w4.heap.size, 0, none⟩) 4 4 (([(⟨4, 0, 0, []⟩, (none, 0, 0)), (⟨0, 0, 0, data⟩, (a2, ndata, c2)), (⟨1, 0, 0, List.replicate 1 (0 : UInt8)⟩, (a3, 1, c3)), (⟨4, 0, 0, []⟩, (none, 0, 0))] : List (Actn × (Option Addr × Nat × Nat))).map (·.1))) := ActsAt.of_list [(⟨4, 0, 0, []⟩, (none, 0, 0)), (⟨0, 0, 0, data⟩, (a2, ndata, c2)), (⟨1, 0, 0, List.replicate 1 (0 : UInt8)⟩, (a3, 1, c3)), (⟨4, 0, 0, []⟩, (none, 0, 0))] (Go.heap_alloc_new w4 _) (fun p hp => by
    simp only [List.mem_cons, List.not_mem_nil, or_false] at hp
    rcases hp with rfl | rfl | rfl | rfl
    · exact ⟨Sl.nil0 _, by simp⟩
    · exact ⟨P2.out.keep0 GA, by simp only; omega⟩
    · exact ⟨P3.out.keep0 GA, by simp only; omega⟩
    · exact ⟨Sl.nil0 _, by simp⟩
    ) (by simp [maxLen])
  have FA := F4.trans GA
  replace P901 := Lib.hid (P901.out.keep0 GA)
  replace P902 := Lib.hid (P902.out.keep0 GA)
  generalize (w4.alloc (.cells #[.int .i64 4, .int .i64 0, .int .i64 0, .slice none 0 0, .int .i64 0, .int .i64 0, .int .i64 0, .slice a2 ndata c2, .int .i64 1, .int .i64 0, .int .i64 0, .slice a3 1 c3, .int .i64 4, .int .i64 0, .int .i64 0, .slice none 0 0] 27)) = wA at AX FA P901 P902 ⊢
  clear GA P2 P3
  obtain ⟨p, hp⟩ : ∃ p, p = xpOf (k5 kind) name custom := ⟨_, rfl⟩
  have RX1 : Calls Try.prog 15 #[.int .i64 kind, .slice a901 nname c901, .slice a902 ncustom c902, .slice (some ⟨w4.heap.size, 0, none⟩) 4 4] wA (RunXR (runX p [⟨4, 0, 0, []⟩, ⟨0, 0, 0, data⟩, ⟨1, 0, 0, List.replicate 1 (0 : UInt8)⟩, ⟨4, 0, 0, []⟩]) wA) := by
   rw [hp]
   exact runXofs_anyS wA kind (⟨a901, nname, c901, name, a902, ncustom, c902, custom⟩ : NC) _ 4 4 _ AX.out ⟨P901.out, P902.out, fun y hy hn => P901.out.lt hy hn, fun y hy hn => P902.out.lt hy hn⟩ (by show nname ≤ _; omega) (by show ncustom ≤ _; omega) (by omega) (fun x hx hk => by
    simp only [List.mem_cons, List.not_mem_nil, or_false] at hx
    rcases hx with rfl | rfl | rfl | rfl
    all_goals simp at hk)
  have HRX := Lib.hid RX1
  clear RX1
  refine HRX.out.mono ?_
  rintro e wB ⟨aB, cB, vs, rfl, RB, GB⟩
  have FB := FA.trans GB
  clear AX FA GB HRX
  have hrs : runX p [⟨4, 0, 0, []⟩, ⟨0, 0, 0, data⟩, ⟨1, 0, 0, List.replicate 1 (0 : UInt8)⟩, ⟨4, 0, 0, []⟩] = [⟨p.r, [], false, false⟩, ⟨data.length, data, true, false⟩, ⟨(List.replicate 1 (0 : UInt8)).length, xOut p ⟨p.hd ++ data, none⟩ (List.replicate 1 (0 : UInt8)).length, true, false⟩, ⟨p.r, [], false, false⟩] := by kernel_rfl
  obtain ⟨R, hR⟩ : ∃ R, R = xR (k5 kind) := ⟨_, rfl⟩
  have hpr : p.r = R := by rw [hp, hR]; exact xpOf_r _ (k5_lt kind) _ _
  have HXB := Lib.hid (xofBlock_any kind)
  rw [← hR] at HXB
  simp only [List.length_replicate, hpr] at hrs
  have hl : (runX p [⟨4, 0, 0, []⟩, ⟨0, 0, 0, data⟩, ⟨1, 0, 0, List.replicate 1 (0 : UInt8)⟩, ⟨4, 0, 0, []⟩]).length = 4 := by rw [hrs]; rfl
  have RB' := RB
  rw [hl, hrs] at RB'
  rw [hl]
  clear hrs hl RB
  obtain ⟨g, hg, hc1, hc2, _⟩ := RB'.cells (by decide)
  subst hg
  unfold maxLen at hc2
  have D0 : SXFnXofBlocks w wA.heap.size (some ⟨g, 0, none⟩) 4 cB [⟨(R : Int), [], false, false⟩, ⟨data.length, data, true, false⟩, ⟨1, xOut p ⟨p.hd ++ data, none⟩ 1, true, false⟩, ⟨(R : Int), [], false, false⟩] vs wB.drew := ⟨RB'.keep (S' := []) (Fr.refl _ _).drew (by simp), FB.drew⟩
  clear RB' FB
  clear hR hpr
  have tb : ((R : Int) == (R : Int)) = true := by simp
  go_wp2_with fail
  go_region_held3 (fun w' => w'.cell? ⟨g, 0, none⟩ = some (.int .i64 (R : Int)) ∧ w'.cell? ⟨g, 12, none⟩ = some (.int .i64 (R : Int)) ∧ SXFnXofBlocks w wA.heap.size (some ⟨g, 0, none⟩) 4 cB [⟨(R : Int), [], false, false⟩, ⟨data.length, data, true, false⟩, ⟨1, xOut p ⟨p.hd ++ data, none⟩ 1, true, false⟩, ⟨(R : Int), [], false, false⟩] vs w')
    (first | (exact ⟨RsI_cell D1.rs 0 0 (by decide) (by decide), RsI_cell D1.rs 3 0 (by decide) (by decide), D1⟩) | (exact ⟨RsI_cell D0.rs 0 0 (by decide) (by decide), RsI_cell D0.rs 3 0 (by decide) (by decide), D0⟩) | (go_keep))
    (first | (go_at_call 22; refine (HXB.out _).mono ?_; rintro e u1 ⟨rfl, f1⟩; have D1 := D0.keep f1))
  go_wp2_with fail
  go_ret
  exact ⟨by simp, D1.fr⟩
end Go.Proofs.Ytkijnpjefccepaa
end

section
namespace Go.Proofs.Ytkijnpjefccepaa.rFnXofBlocks
open Go.ChangeShapes Go.WideShapes Go.ChangeAt Go.RowKit Go.Sha
set_option linter.unusedVariables false

theorem own : ownKnob Try.prog.godebug = none := by kernel_rfl
theorem laidOut : laidOutB Try.prog = true := by kernel_rfl

set_option maxRecDepth 100000 in
theorem lifted (os : Os) (started : os.Started) (H : Type) (enc : TypeId × Value → H) :
    ReturnsInHanded {} Try.checked os 5 .any (Rows.fnXofBlocksSpec.pre6 enc Try.prog Try.f5 Rows.fnXofBlocksRow.domain false) (Rows.fnXofBlocksSpec.post enc Try.prog Try.f5 false true false false) := by
  refine returnsInHanded_of_change_sized (C := Try.checked) own started (by kernel_rfl) Try.func5
    (ChangeSpec.witness6 (enc := enc) (C := Try.checked) false ⟨#[], #[.int .i64 0, .slice none 0 0, .slice none 0 0, .slice none 0 0], []⟩ 8 (by kernel_rfl) (by kernel_rfl) (by kernel_rfl) (by kernel_rfl)) ?_
  intro W base args ds gs before hval0 hW hcnd hsz0 _
  have hsz : (DataW.weightsEach Try.prog (Try.f5.params.toList ++ Rows.fnXofBlocksSpec.plain.varTypes Try.prog) (ds ++ gs)).all (· ≤ reachBytes) = true := hsz0
  have hval : ∀ (j : Nat) t v, Try.f5.params[j]? = some t → args[j]? = some v → Value.okWide Try.prog W .any base t v := hval0
  have hW' := hW
  obtain ⟨p, q, hA0, hV, rfl, hfz, hnd⟩ := hW
  have hA : DataW.TrodAll enc Try.prog W 0 (fun _ => true) true Try.f5.params.toList args.toList ds p := hA0
  rw [Try.params5] at hA hval hsz
  obtain ⟨v0, vs0, d0, ds0, p0, q0, hargs, rfl, rfl, h0, r0⟩ := trodAll_cons hA
  obtain ⟨v1, vs1, d1, ds1, p1, q1, rfl, rfl, rfl, h1, r1⟩ := trodAll_cons r0
  obtain ⟨v2, vs2, d2, ds2, p2, q2, rfl, rfl, rfl, h2, r2⟩ := trodAll_cons r1
  obtain ⟨v3, vs3, d3, ds3, p3, q3, rfl, rfl, rfl, h3, r3⟩ := trodAll_cons r2
  obtain ⟨rfl, rfl, rfl⟩ := trodAll_nil r3
  obtain rfl : args = #[v0, v1, v2, v3] := by cases args; simp_all
  obtain ⟨rfl, rfl⟩ := trodVars_none hV
  obtain ⟨a0, rfl, rfl, rfl, w0⟩ := open_int Try.underlying3 (hval 0 3 v0 rfl rfl) h0
  obtain ⟨a1, len1, cap1, rfl⟩ := okWide_slice Try.underlying22 (hval 1 22 v1 rfl rfl)
  have k1 := h1
  have lt1 : ∀ x ∈ p1, x.block < W.heap.size := by obtain ⟨m, hm⟩ := k1; exact DataW.trod_lt m _ _ _ hm
  obtain ⟨fuel1, hf1⟩ := h1
  obtain ⟨l1, s1, dl1⟩ := open_bytes Try.underlying22 Try.underlying5 (by kernel_rfl) hf1
  have b1 := (dl1.reach hsz (j := 1) rfl rfl Try.underlying22 (by kernel_rfl)).1
  obtain ⟨a2, len2, cap2, rfl⟩ := okWide_slice Try.underlying22 (hval 2 22 v2 rfl rfl)
  have k2 := h2
  have lt2 : ∀ x ∈ p2, x.block < W.heap.size := by obtain ⟨m, hm⟩ := k2; exact DataW.trod_lt m _ _ _ hm
  obtain ⟨fuel2, hf2⟩ := h2
  obtain ⟨l2, s2, dl2⟩ := open_bytes Try.underlying22 Try.underlying5 (by kernel_rfl) hf2
  have b2 := (dl2.reach hsz (j := 2) rfl rfl Try.underlying22 (by kernel_rfl)).1
  obtain ⟨a3, len3, cap3, rfl⟩ := okWide_slice Try.underlying22 (hval 3 22 v3 rfl rfl)
  have k3 := h3
  have lt3 : ∀ x ∈ p3, x.block < W.heap.size := by obtain ⟨m, hm⟩ := k3; exact DataW.trod_lt m _ _ _ hm
  obtain ⟨fuel3, hf3⟩ := h3
  obtain ⟨l3, s3, dl3⟩ := open_bytes Try.underlying22 Try.underlying5 (by kernel_rfl) hf3
  have b3 := (dl3.reach hsz (j := 3) rfl rfl Try.underlying22 (by kernel_rfl)).1
  clear hA0 hval0
  refine (fnXofBlocks_walk a0 a1 len1 cap1 l1 a2 len2 cap2 l2 a3 len3 cap3 l3 W s1 (by omega) s2 (by omega) s3 (by omega)).mono fun e W' ⟨he, hfr⟩ => ?_
  have bel := hfr.below
  subst he
  exact ⟨_, rfl, _, _, _, [], _, [], hW', trodAll_mk1 (shut_bool Try.underlying4 _), (trodAll_cons_mk (shut_int Try.underlying3 w0) (trodAll_cons_mk (Below.trod laidOut (by kernel_rfl) (of_decide_eq_true (by kernel_rfl)) k1 bel lt1) (trodAll_cons_mk (Below.trod laidOut (by kernel_rfl) (of_decide_eq_true (by kernel_rfl)) k2 bel lt2) (trodAll_cons_mk (Below.trod laidOut (by kernel_rfl) (of_decide_eq_true (by kernel_rfl)) k3 bel lt3) trodAll_mk0)))), rfl, bel.frame _, fun h => by cases h⟩

theorem proved : Rows.FnXofBlocksSaid :=
  OpenClaim.holds_of_wide 5 Try.f5 rfl rfl rfl rfl rfl rfl rfl ⟨rfl, rfl, rfl, rfl, rfl⟩ rfl rfl rfl rfl rfl (by kernel_rfl) Try.func5 (by kernel_rfl)
    (of_decide_eq_true (by kernel_rfl)) (by unfold Func.isWrapper; first | (rw [if_pos (by decide +kernel)]; kernel_rfl) | (rw [if_neg (by decide +kernel)]; exact ⟨rfl, rfl⟩))
    (fun os started H enc _ => lifted os started H enc)
#print axioms proved
end Go.Proofs.Ytkijnpjefccepaa.rFnXofBlocks
namespace Go.Proofs.Ytkijnpjefccepaa
theorem fnXofBlocks_holds : Rows.FnXofBlocksSaid := rFnXofBlocks.proved
end Go.Proofs.Ytkijnpjefccepaa
end
