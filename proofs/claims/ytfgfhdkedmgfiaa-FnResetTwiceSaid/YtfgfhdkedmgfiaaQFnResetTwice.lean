/- FnResetTwice: for every input the law returns true, and each argument reads afterwards as it read before. No condition. -/
import Derived.Test.YtfgfhdkedmgfiaaGA
import Derived.Test.YtfgfhdkedmgfiaaGB
import Derived.Test.YtfgfhdkedmgfiaaGC
import Derived.Test.YtfgfhdkedmgfiaaGD
import Derived.Test.YtfgfhdkedmgfiaaGE
import Derived.Test.YtfgfhdkedmgfiaaGF
import Derived.Test.YtfgfhdkedmgfiaaGG
import Derived.Test.YtfgfhdkedmgfiaaGH
import Derived.Test.YtfgfhdkedmgfiaaGN
import Derived.Test.YtfgfhdkedmgfiaaGO
import Derived.Test.YtfgfhdkedmgfiaaGP
import Derived.Test.YtfgfhdkedmgfiaaGI
import Derived.Test.YtfgfhdkedmgfiaaGK
import Derived.Test.YtfgfhdkedmgfiaaGL
import Derived.Test.YtfgfhdkedmgfiaaGJ
import Derived.Test.YtfgfhdkedmgfiaaGM
import Derived.Below
import Derived.ChangeOld
import Derived.Deep.RegionLaw
import Derived.ShutString
section
namespace Go.Proofs.Ytfgfhdkedmgfiaa
open Go.ChangeShapes Go.WideShapes Go.ChangeAt Go.RowKit Go.Sha
structure SFnResetTwice (w : World) (base : Nat) (ax : Option Addr) (nx cx : Nat) (rs : List Res) (vs : List (Option Addr × Nat)) (pa : Option Addr) (na ca : Nat) (a : Bs) (w' : World) : Prop where
  rs : RsI 31 5 w' base [] ax nx cx rs vs
  sa : Sl w' pa na ca a
  fr : Fr [] w w'
theorem SFnResetTwice.keep {w : World} {base : Nat} {ax : Option Addr} {nx cx : Nat} {rs : List Res} {vs : List (Option Addr × Nat)} {pa : Option Addr} {na ca : Nat} {a : Bs} {w1 w2 : World} (h : SFnResetTwice w base ax nx cx rs vs pa na ca a w1) (f : Fr [] w1 w2) : SFnResetTwice w base ax nx cx rs vs pa na ca a w2 :=
  ⟨h.rs.keep f (by simp), h.sa.keep0 f, h.fr.trans f⟩
set_option maxRecDepth 100000 in
set_option maxHeartbeats 1000000 in
theorem fnResetTwice_walk (kind : Int) (pa : Option Addr) (na ca : Nat) (a : Bs) (w : World) (ha : Sl w pa na ca a) (hna : na ≤ 140737488351232) :
    Calls Try.prog 10 #[.int .i64 kind, .slice pa na ca] w (RetB true w) := by
  have H_a := Lib.hid ha.len
  have La := H_a
  have H0a := Lib.hid ha
  clear ha
  have F0 := Fr.refl [] w
  have HHD := Lib.hid (hashed_any kind)
  obtain ⟨r, hr⟩ : ∃ r, r = rOf (k5 kind) := ⟨_, rfl⟩
  obtain ⟨o, ho⟩ : ∃ o, o = oOf (k5 kind) := ⟨_, rfl⟩
  have hrt : Rt r o := by rw [hr, ho]; exact rt_of _ (k5_lt kind)
  have hole := hrt.ole
  have hopos := hrt.opos
  rw [← hr, ← ho] at HHD
  have HRO := Lib.hid (And.intro hr ho)
  clear hr ho hrt
  go_enter Try.func10, Try.ntmps10
  go_wp2_with fail
  refine (lwrite_any 0 _ na _ a _ (H0a.out.keep0 F0) (by omega)).mono ?_
  rintro e w1 ⟨a1, c1, rfl, O1, G⟩
  have F1 := F0.trans G
  have P1 := Lib.hid (O1.sl_at H_a.out)
  clear O1 G
  go_wp2_with fail
  refine (lplain_any 2 0 _).mono ?_
  rintro e w2 ⟨rfl, G⟩
  have F2 := F1.trans G
  replace P1 := Lib.hid (P1.out.keep0 G)
  clear G
  go_wp2_with fail
  refine (lplain_any 2 0 _).mono ?_
  rintro e w3 ⟨rfl, G⟩
  have F3 := F2.trans G
  replace P1 := Lib.hid (P1.out.keep0 G)
  clear G
  go_wp2_with fail
  refine (lask_any 0 _ 0 _ [] _ (Sl.nil0 _) (by omega)).mono ?_
  rintro e w4 ⟨a4, c4, rfl, O4, G⟩
  have F4 := F3.trans G
  replace P1 := Lib.hid (P1.out.keep0 G)
  have P4 := Lib.hid (O4.sl_at rfl)
  clear O4 G
  go_wp2_with fail
  have GA : Fr [] w4 (w4.alloc (.cells #[.int .i64 0, .int .i64 0, .int .i64 0, .slice a1 na c1, .int .i64 2, .int .i64 0, .int .i64 0, .slice none 0 0, .int .i64 2, .int .i64 0, .int .i64 0, .slice none 0 0, .int .i64 1, .int .i64 0, .int .i64 0, .slice a4 0 c4] 26)) := (Fr.refl _ _).alloc _
  have AX : Hid (ActsAt (w4.alloc (.cells #[.int .i64 0, .int .i64 0, .int .i64 0, .slice a1 na c1, .int .i64 2, .int .i64 0, .int .i64 0, .slice none 0 0, .int .i64 2, .int .i64 0, .int .i64 0, .slice none 0 0, .int .i64 1, .int .i64 0, .int .i64 0, .slice a4 0 c4] 26)) (some ⟨w4.heap.size, 0, none⟩) 4 4 (([(⟨0, 0, 0, a⟩, (a1, na, c1)), (⟨2, 0, 0, []⟩, (none, 0, 0)), (⟨2, 0, 0, []⟩, (none, 0, 0)), (⟨1, 0, 0, []⟩, (a4, 0, c4))] : List (Actn × (Option Addr × Nat × Nat))).map (·.1))) := ActsAt.of_list [(⟨0, 0, 0, a⟩, (a1, na, c1)), (⟨2, 0, 0, []⟩, (none, 0, 0)), (⟨2, 0, 0, []⟩, (none, 0, 0)), (⟨1, 0, 0, []⟩, (a4, 0, c4))] (Go.heap_alloc_new w4 _) (fun p hp => by
    simp only [List.mem_cons, List.not_mem_nil, or_false] at hp
    rcases hp with rfl | rfl | rfl | rfl
    · exact ⟨P1.out.keep0 GA, by simp only; omega⟩
    · exact ⟨Sl.nil0 _, by simp⟩
    · exact ⟨Sl.nil0 _, by simp⟩
    · exact ⟨P4.out.keep0 GA, by simp only; omega⟩
    ) (by simp [maxLen])
  have FA := F4.trans GA
  generalize (w4.alloc (.cells #[.int .i64 0, .int .i64 0, .int .i64 0, .slice a1 na c1, .int .i64 2, .int .i64 0, .int .i64 0, .slice none 0 0, .int .i64 2, .int .i64 0, .int .i64 0, .slice none 0 0, .int .i64 1, .int .i64 0, .int .i64 0, .slice a4 0 c4] 26)) = wA at AX FA ⊢
  clear GA P1 P4
  refine (runHashes_any wA kind _ 4 4 _ AX.out (by omega)).mono ?_
  rintro e wB ⟨aB, cB, vs, rfl, RB, GB⟩
  have FB := FA.trans GB
  clear AX FA GB
  rw [← HRO.out.1, ← HRO.out.2] at RB
  have hrs : runH r o [⟨0, 0, 0, a⟩, ⟨2, 0, 0, []⟩, ⟨2, 0, 0, []⟩, ⟨1, 0, 0, []⟩] = [⟨a.length, a, true, false⟩, ⟨0, [], false, false⟩, ⟨0, [], false, false⟩, ⟨0, hsum r o [], false, false⟩] := by kernel_rfl
  have RB' : RsI 31 5 wB wA.heap.size [] aB 4 cB (runH r o [⟨0, 0, 0, a⟩, ⟨2, 0, 0, []⟩, ⟨2, 0, 0, []⟩, ⟨1, 0, 0, []⟩]) vs := RB
  rw [hrs] at RB'
  have D0 : SFnResetTwice w wA.heap.size aB 4 cB [⟨a.length, a, true, false⟩, ⟨0, [], false, false⟩, ⟨0, [], false, false⟩, ⟨0, hsum r o [], false, false⟩] vs pa na ca a wB := ⟨RB', H0a.out.keep0 FB, FB⟩
  clear RB RB' hrs FB
  obtain ⟨g, hg, hc1, hc2, _⟩ := D0.rs.cells (by decide)
  subst hg
  unfold maxLen at hc2
  have tpos : decide ((0 : Int) < (o : Int)) = true := by simp; exact hopos
  have q0 : wB.cell? ⟨g, 13, none⟩ = some (.slice (vs.getD 3 (none, 0)).1 o (vs.getD 3 (none, 0)).2) := by
    have e := RsI_cell D0.rs 3 1 (by decide) (by decide)
    rw [show 4 * 3 + 1 = 13 from rfl] at e
    rw [e]
    show some (Value.slice _ (hsum _ _ _).length _) = _
    rw [hsum_length]
  go_wp2_with fail
  clear q0
  refine (HHD.out _ 0 _ ([]) _ (Sl.nil0 _) (by omega)).mono ?_
  rintro e u1 ⟨b1, d1, rfl, o1, f1⟩
  have D1 := D0.keep f1
  have Z1 := Lib.hid o1.sl
  clear o1
  have q0 : u1.cell? ⟨g, 13, none⟩ = some (.slice (vs.getD 3 (none, 0)).1 o (vs.getD 3 (none, 0)).2) := by
    have e := RsI_cell D1.rs 3 1 (by decide) (by decide)
    rw [show 4 * 3 + 1 = 13 from rfl] at e
    rw [e]
    show some (Value.slice _ (hsum _ _ _).length _) = _
    rw [hsum_length]
  go_wp2_with fail
  clear q0
  refine (tells_t _ _ _ _ _ _ _ vs 3 _ _ _ (hsum r o ([])) D1.rs (by decide) Z1.out rfl).mono ?_
  rintro e u2 ⟨rfl, f2⟩
  have D2 := D1.keep f2
  have q0 : u2.cell? ⟨g, 13, none⟩ = some (.slice (vs.getD 3 (none, 0)).1 o (vs.getD 3 (none, 0)).2) := by
    have e := RsI_cell D2.rs 3 1 (by decide) (by decide)
    rw [show 4 * 3 + 1 = 13 from rfl] at e
    rw [e]
    show some (Value.slice _ (hsum _ _ _).length _) = _
    rw [hsum_length]
  go_wp2_with fail
  clear q0
  go_ret
  exact ⟨rfl, D2.fr⟩
end Go.Proofs.Ytfgfhdkedmgfiaa
end

section
namespace Go.Proofs.Ytfgfhdkedmgfiaa.rFnResetTwice
open Go.ChangeShapes Go.WideShapes Go.ChangeAt Go.RowKit Go.Sha
set_option linter.unusedVariables false

theorem own : ownKnob Try.prog.godebug = none := by kernel_rfl
theorem laidOut : laidOutB Try.prog = true := by kernel_rfl

set_option maxRecDepth 100000 in
theorem lifted (os : Os) (started : os.Started) (H : Type) (enc : TypeId × Value → H) :
    ReturnsInHanded {} Try.checked os 10 .any (Rows.fnResetTwiceSpec.pre6 enc Try.prog Try.f10 Rows.fnResetTwiceRow.domain false) (Rows.fnResetTwiceSpec.post enc Try.prog Try.f10 false true false false) := by
  refine returnsInHanded_of_change_sized (C := Try.checked) own started (by kernel_rfl) Try.func10
    (ChangeSpec.witness6 (enc := enc) (C := Try.checked) false ⟨#[], #[.int .i64 0, .slice none 0 0], []⟩ 8 (by kernel_rfl) (by kernel_rfl) (by kernel_rfl) (by kernel_rfl)) ?_
  intro W base args ds gs before hval0 hW hcnd hsz0 _
  have hsz : (DataW.weightsEach Try.prog (Try.f10.params.toList ++ Rows.fnResetTwiceSpec.plain.varTypes Try.prog) (ds ++ gs)).all (· ≤ reachBytes) = true := hsz0
  have hval : ∀ (j : Nat) t v, Try.f10.params[j]? = some t → args[j]? = some v → Value.okWide Try.prog W .any base t v := hval0
  have hW' := hW
  obtain ⟨p, q, hA0, hV, rfl, hfz, hnd⟩ := hW
  have hA : DataW.TrodAll enc Try.prog W 0 (fun _ => true) true Try.f10.params.toList args.toList ds p := hA0
  rw [Try.params10] at hA hval hsz
  obtain ⟨v0, vs0, d0, ds0, p0, q0, hargs, rfl, rfl, h0, r0⟩ := trodAll_cons hA
  obtain ⟨v1, vs1, d1, ds1, p1, q1, rfl, rfl, rfl, h1, r1⟩ := trodAll_cons r0
  obtain ⟨rfl, rfl, rfl⟩ := trodAll_nil r1
  obtain rfl : args = #[v0, v1] := by cases args; simp_all
  obtain ⟨rfl, rfl⟩ := trodVars_none hV
  obtain ⟨a0, rfl, rfl, rfl, w0⟩ := open_int Try.underlying3 (hval 0 3 v0 rfl rfl) h0
  obtain ⟨a1, len1, cap1, rfl⟩ := okWide_slice Try.underlying22 (hval 1 22 v1 rfl rfl)
  have k1 := h1
  have lt1 : ∀ x ∈ p1, x.block < W.heap.size := by obtain ⟨m, hm⟩ := k1; exact DataW.trod_lt m _ _ _ hm
  obtain ⟨fuel1, hf1⟩ := h1
  obtain ⟨l1, s1, dl1⟩ := open_bytes Try.underlying22 Try.underlying5 (by kernel_rfl) hf1
  have b1 := (dl1.reach hsz (j := 1) rfl rfl Try.underlying22 (by kernel_rfl)).1
  clear hA0 hval0
  refine (fnResetTwice_walk a0 a1 len1 cap1 l1 W s1 (by omega)).mono fun e W' ⟨he, hfr⟩ => ?_
  have bel := hfr.below
  subst he
  exact ⟨_, rfl, _, _, _, [], _, [], hW', trodAll_mk1 (shut_bool Try.underlying4 _), (trodAll_cons_mk (shut_int Try.underlying3 w0) (trodAll_cons_mk (Below.trod laidOut (by kernel_rfl) (of_decide_eq_true (by kernel_rfl)) k1 bel lt1) trodAll_mk0)), rfl, bel.frame _, fun h => by cases h⟩

theorem proved : Rows.FnResetTwiceSaid :=
  OpenClaim.holds_of_wide 10 Try.f10 rfl rfl rfl rfl rfl rfl rfl ⟨rfl, rfl, rfl, rfl, rfl⟩ rfl rfl rfl rfl rfl (by kernel_rfl) Try.func10 (by kernel_rfl)
    (of_decide_eq_true (by kernel_rfl)) (by unfold Func.isWrapper; first | (rw [if_pos (by decide +kernel)]; kernel_rfl) | (rw [if_neg (by decide +kernel)]; exact ⟨rfl, rfl⟩))
    (fun os started H enc _ => lifted os started H enc)
#print axioms proved
end Go.Proofs.Ytfgfhdkedmgfiaa.rFnResetTwice
namespace Go.Proofs.Ytfgfhdkedmgfiaa
theorem fnResetTwice_holds : Rows.FnResetTwiceSaid := rFnResetTwice.proved
end Go.Proofs.Ytfgfhdkedmgfiaa
end
