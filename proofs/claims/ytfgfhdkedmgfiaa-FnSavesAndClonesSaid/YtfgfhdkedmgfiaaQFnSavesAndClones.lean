/- FnSavesAndClones: for every input the law returns true, and each argument reads afterwards as it read before. No condition. -/
import Derived.Test.YtfgfhdkedmgfiaaGA
import Derived.Test.YtfgfhdkedmgfiaaGB
import Derived.Test.YtfgfhdkedmgfiaaGC
import Derived.Test.YtfgfhdkedmgfiaaGG
import Derived.Test.YtfgfhdkedmgfiaaGH
import Derived.Test.YtfgfhdkedmgfiaaGN
import Derived.Test.YtfgfhdkedmgfiaaGO
import Derived.Test.YtfgfhdkedmgfiaaGP
import Derived.Test.YtfgfhdkedmgfiaaGI
import Derived.Test.YtfgfhdkedmgfiaaGK
import Derived.Test.YtfgfhdkedmgfiaaGL
import Derived.Test.YtfgfhdkedmgfiaaGJ
import Derived.Below
import Derived.ChangeOld
import Derived.Deep.RegionHeld3
import Derived.ShutString
section
namespace Go.Proofs.Ytfgfhdkedmgfiaa
open Go.ChangeShapes Go.WideShapes Go.ChangeAt Go.RowKit Go.Sha
structure SFnSavesAndClones (w : World) (base : Nat) (ax : Option Addr) (nx cx : Nat) (rs : List Res) (vs : List (Option Addr × Nat)) (pa : Option Addr) (na ca : Nat) (a : Bs) (pb : Option Addr) (nb cb : Nat) (b : Bs) (w' : World) : Prop where
  rs : RsI 31 5 w' base [] ax nx cx rs vs
  sa : Sl w' pa na ca a
  sb : Sl w' pb nb cb b
  fr : Fr [] w w'
theorem SFnSavesAndClones.keep {w : World} {base : Nat} {ax : Option Addr} {nx cx : Nat} {rs : List Res} {vs : List (Option Addr × Nat)} {pa : Option Addr} {na ca : Nat} {a : Bs} {pb : Option Addr} {nb cb : Nat} {b : Bs} {w1 w2 : World} (h : SFnSavesAndClones w base ax nx cx rs vs pa na ca a pb nb cb b w1) (f : Fr [] w1 w2) : SFnSavesAndClones w base ax nx cx rs vs pa na ca a pb nb cb b w2 :=
  ⟨h.rs.keep f (by simp), h.sa.keep0 f, h.sb.keep0 f, h.fr.trans f⟩
/-- a stronger condition may be held from here on -/
theorem wpAnyH_sub {P : Program} {md : Region.Mode} {ops : Array Oper} {Q : Exit → Act → World → Prop} {S S' : World → Prop} (hs : ∀ w, S' w → S w) : ∀ (fuel : Nat) (listed : Array Bool) (a : Act) (w : World), wpAnyH P md ops Q S' fuel listed a w → wpAnyH P md ops Q S fuel listed a w
  | 0, _, _, _, h => h
  | fuel + 1, _, _, _, h => ⟨h.1, fun i hi => wpOp_mono (fun a' w' h' => ⟨hs _ h'.1, wpAnyH_sub hs fuel _ a' w' h'.2⟩) (h.2 i hi)⟩
set_option maxRecDepth 100000 in
set_option maxHeartbeats 4000000 in
theorem fnSavesAndClones_walk (kind : Int) (pa : Option Addr) (na ca : Nat) (a : Bs) (pb : Option Addr) (nb cb : Nat) (b : Bs) (w : World) (ha : Sl w pa na ca a) (hna : na ≤ 140737488351232) (hb : Sl w pb nb cb b) (hnb : nb ≤ 140737488351232) :
    Calls Try.prog 3 #[.int .i64 kind, .slice pa na ca, .slice pb nb cb] w (RetB true w) := by
  have H_a := Lib.hid ha.len
  have La := H_a
  have H0a := Lib.hid ha
  clear ha
  have H_b := Lib.hid hb.len
  have Lb := H_b
  have H0b := Lib.hid hb
  clear hb
  have F0 := Fr.refl [] w

  obtain ⟨r, hr⟩ : ∃ r, r = rOf (k5 kind) := ⟨_, rfl⟩
  obtain ⟨o, ho⟩ : ∃ o, o = oOf (k5 kind) := ⟨_, rfl⟩
  have hrt : Rt r o := by rw [hr, ho]; exact rt_of _ (k5_lt kind)
  have hole := hrt.ole
  have hopos := hrt.opos

  have HRO := Lib.hid (And.intro hr ho)
  clear hr ho hrt
  go_enter Try.func3, Try.ntmps3
  go_wp2_with fail
  refine (lwrite_any 0 _ na _ a _ (H0a.out.keep0 F0) (by omega)).mono ?_
  rintro e w1 ⟨a1, c1, rfl, O1, G⟩
  have F1 := F0.trans G
  have P1 := Lib.hid (O1.sl_at H_a.out)
  clear O1 G
  go_wp2_with fail
  refine (lplain_any 5 0 _).mono ?_
  rintro e w2 ⟨rfl, G⟩
  have F2 := F1.trans G
  replace P1 := Lib.hid (P1.out.keep0 G)
  clear G
  go_wp2_with fail
  refine (lplain_any 7 0 _).mono ?_
  rintro e w3 ⟨rfl, G⟩
  have F3 := F2.trans G
  replace P1 := Lib.hid (P1.out.keep0 G)
  clear G
  go_wp2_with fail
  refine (lplain_any 6 0 _).mono ?_
  rintro e w4 ⟨rfl, G⟩
  have F4 := F3.trans G
  replace P1 := Lib.hid (P1.out.keep0 G)
  clear G
  go_wp2_with fail
  refine (lload_any 2 0 _).mono ?_
  rintro e w5 ⟨rfl, G⟩
  have F5 := F4.trans G
  replace P1 := Lib.hid (P1.out.keep0 G)
  clear G
  go_wp2_with fail
  refine (lplain_any 6 0 _).mono ?_
  rintro e w6 ⟨rfl, G⟩
  have F6 := F5.trans G
  replace P1 := Lib.hid (P1.out.keep0 G)
  clear G
  go_wp2_with fail
  refine (lwrite_any 3 _ na _ a _ (H0a.out.keep0 F6) (by omega)).mono ?_
  rintro e w7 ⟨a7, c7, rfl, O7, G⟩
  have F7 := F6.trans G
  replace P1 := Lib.hid (P1.out.keep0 G)
  have P7 := Lib.hid (O7.sl_at H_a.out)
  clear O7 G
  go_wp2_with fail
  refine (lwrite_any 1 _ nb _ b _ (H0b.out.keep0 F7) (by omega)).mono ?_
  rintro e w8 ⟨a8, c8, rfl, O8, G⟩
  have F8 := F7.trans G
  replace P1 := Lib.hid (P1.out.keep0 G)
  replace P7 := Lib.hid (P7.out.keep0 G)
  have P8 := Lib.hid (O8.sl_at H_b.out)
  clear O8 G
  go_wp2_with fail
  refine (lwrite_any 2 _ nb _ b _ (H0b.out.keep0 F8) (by omega)).mono ?_
  rintro e w9 ⟨a9, c9, rfl, O9, G⟩
  have F9 := F8.trans G
  replace P1 := Lib.hid (P1.out.keep0 G)
  replace P7 := Lib.hid (P7.out.keep0 G)
  replace P8 := Lib.hid (P8.out.keep0 G)
  have P9 := Lib.hid (O9.sl_at H_b.out)
  clear O9 G
  go_wp2_with fail
  refine (lwrite_any 3 _ nb _ b _ (H0b.out.keep0 F9) (by omega)).mono ?_
  rintro e w10 ⟨a10, c10, rfl, O10, G⟩
  have F10 := F9.trans G
  replace P1 := Lib.hid (P1.out.keep0 G)
  replace P7 := Lib.hid (P7.out.keep0 G)
  replace P8 := Lib.hid (P8.out.keep0 G)
  replace P9 := Lib.hid (P9.out.keep0 G)
  have P10 := Lib.hid (O10.sl_at H_b.out)
  clear O10 G
  go_wp2_with fail
  refine (lask_any 1 _ 0 _ [] _ (Sl.nil0 _) (by omega)).mono ?_
  rintro e w11 ⟨a11, c11, rfl, O11, G⟩
  have F11 := F10.trans G
  replace P1 := Lib.hid (P1.out.keep0 G)
  replace P7 := Lib.hid (P7.out.keep0 G)
  replace P8 := Lib.hid (P8.out.keep0 G)
  replace P9 := Lib.hid (P9.out.keep0 G)
  replace P10 := Lib.hid (P10.out.keep0 G)
  have P11 := Lib.hid (O11.sl_at rfl)
  clear O11 G
  go_wp2_with fail
  refine (lask_any 2 _ 0 _ [] _ (Sl.nil0 _) (by omega)).mono ?_
  rintro e w12 ⟨a12, c12, rfl, O12, G⟩
  have F12 := F11.trans G
  replace P1 := Lib.hid (P1.out.keep0 G)
  replace P7 := Lib.hid (P7.out.keep0 G)
  replace P8 := Lib.hid (P8.out.keep0 G)
  replace P9 := Lib.hid (P9.out.keep0 G)
  replace P10 := Lib.hid (P10.out.keep0 G)
  replace P11 := Lib.hid (P11.out.keep0 G)
  have P12 := Lib.hid (O12.sl_at rfl)
  clear O12 G
  go_wp2_with fail
  refine (lask_any 3 _ 0 _ [] _ (Sl.nil0 _) (by omega)).mono ?_
  rintro e w13 ⟨a13, c13, rfl, O13, G⟩
  have F13 := F12.trans G
  replace P1 := Lib.hid (P1.out.keep0 G)
  replace P7 := Lib.hid (P7.out.keep0 G)
  replace P8 := Lib.hid (P8.out.keep0 G)
  replace P9 := Lib.hid (P9.out.keep0 G)
  replace P10 := Lib.hid (P10.out.keep0 G)
  replace P11 := Lib.hid (P11.out.keep0 G)
  replace P12 := Lib.hid (P12.out.keep0 G)
  have P13 := Lib.hid (O13.sl_at rfl)
  clear O13 G
  go_wp2_with fail
  have GA : Fr [] w13 (w13.alloc (.cells #[.int .i64 0, .int .i64 0, .int .i64 0, .slice a1 na c1, .int .i64 5, .int .i64 0, .int .i64 0, .slice none 0 0, .int .i64 7, .int .i64 0, .int .i64 0, .slice none 0 0, .int .i64 6, .int .i64 0, .int .i64 0, .slice none 0 0, .int .i64 9, .int .i64 2, .int .i64 0, .slice none 0 0, .int .i64 6, .int .i64 0, .int .i64 0, .slice none 0 0, .int .i64 0, .int .i64 3, .int .i64 0, .slice a7 na c7, .int .i64 0, .int .i64 1, .int .i64 0, .slice a8 nb c8, .int .i64 0, .int .i64 2, .int .i64 0, .slice a9 nb c9, .int .i64 0, .int .i64 3, .int .i64 0, .slice a10 nb c10, .int .i64 1, .int .i64 1, .int .i64 0, .slice a11 0 c11, .int .i64 1, .int .i64 2, .int .i64 0, .slice a12 0 c12, .int .i64 1, .int .i64 3, .int .i64 0, .slice a13 0 c13] 26)) := (Fr.refl _ _).alloc _
  have AX : Hid (ActsAt (w13.alloc (.cells #[.int .i64 0, .int .i64 0, .int .i64 0, .slice a1 na c1, .int .i64 5, .int .i64 0, .int .i64 0, .slice none 0 0, .int .i64 7, .int .i64 0, .int .i64 0, .slice none 0 0, .int .i64 6, .int .i64 0, .int .i64 0, .slice none 0 0, .int .i64 9, .int .i64 2, .int .i64 0, .slice none 0 0, .int .i64 6, .int .i64 0, .int .i64 0, .slice none 0 0, .int .i64 0, .int .i64 3, .int .i64 0, .slice a7 na c7, .int .i64 0, .int .i64 1, .int .i64 0, .slice a8 nb c8, .int .i64 0, .int .i64 2, .int .i64 0, .slice a9 nb c9, .int .i64 0, .int .i64 3, .int .i64 0, .slice a10 nb c10, .int .i64 1, .int .i64 1, .int .i64 0, .slice a11 0 c11, .int .i64 1, .int .i64 2, .int .i64 0, .slice a12 0 c12, .int .i64 1, .int .i64 3, .int .i64 0, .slice a13 0 c13] 26)) (some ⟨w13.heap.size, 0, none⟩) 13 13 (([(⟨0, 0, 0, a⟩, (a1, na, c1)), (⟨5, 0, 0, []⟩, (none, 0, 0)), (⟨7, 0, 0, []⟩, (none, 0, 0)), (⟨6, 0, 0, []⟩, (none, 0, 0)), (⟨9, 2, 0, []⟩, (none, 0, 0)), (⟨6, 0, 0, []⟩, (none, 0, 0)), (⟨0, 3, 0, a⟩, (a7, na, c7)), (⟨0, 1, 0, b⟩, (a8, nb, c8)), (⟨0, 2, 0, b⟩, (a9, nb, c9)), (⟨0, 3, 0, b⟩, (a10, nb, c10)), (⟨1, 1, 0, []⟩, (a11, 0, c11)), (⟨1, 2, 0, []⟩, (a12, 0, c12)), (⟨1, 3, 0, []⟩, (a13, 0, c13))] : List (Actn × (Option Addr × Nat × Nat))).map (·.1))) := ActsAt.of_list [(⟨0, 0, 0, a⟩, (a1, na, c1)), (⟨5, 0, 0, []⟩, (none, 0, 0)), (⟨7, 0, 0, []⟩, (none, 0, 0)), (⟨6, 0, 0, []⟩, (none, 0, 0)), (⟨9, 2, 0, []⟩, (none, 0, 0)), (⟨6, 0, 0, []⟩, (none, 0, 0)), (⟨0, 3, 0, a⟩, (a7, na, c7)), (⟨0, 1, 0, b⟩, (a8, nb, c8)), (⟨0, 2, 0, b⟩, (a9, nb, c9)), (⟨0, 3, 0, b⟩, (a10, nb, c10)), (⟨1, 1, 0, []⟩, (a11, 0, c11)), (⟨1, 2, 0, []⟩, (a12, 0, c12)), (⟨1, 3, 0, []⟩, (a13, 0, c13))] (Go.heap_alloc_new w13 _) (fun p hp => by
    simp only [List.mem_cons, List.not_mem_nil, or_false] at hp
    rcases hp with rfl | rfl | rfl | rfl | rfl | rfl | rfl | rfl | rfl | rfl | rfl | rfl | rfl
    · exact ⟨P1.out.keep0 GA, by simp only; omega⟩
    · exact ⟨Sl.nil0 _, by simp⟩
    · exact ⟨Sl.nil0 _, by simp⟩
    · exact ⟨Sl.nil0 _, by simp⟩
    · exact ⟨Sl.nil0 _, by simp⟩
    · exact ⟨Sl.nil0 _, by simp⟩
    · exact ⟨P7.out.keep0 GA, by simp only; omega⟩
    · exact ⟨P8.out.keep0 GA, by simp only; omega⟩
    · exact ⟨P9.out.keep0 GA, by simp only; omega⟩
    · exact ⟨P10.out.keep0 GA, by simp only; omega⟩
    · exact ⟨P11.out.keep0 GA, by simp only; omega⟩
    · exact ⟨P12.out.keep0 GA, by simp only; omega⟩
    · exact ⟨P13.out.keep0 GA, by simp only; omega⟩
    ) (by simp [maxLen])
  have FA := F13.trans GA
  generalize (w13.alloc (.cells #[.int .i64 0, .int .i64 0, .int .i64 0, .slice a1 na c1, .int .i64 5, .int .i64 0, .int .i64 0, .slice none 0 0, .int .i64 7, .int .i64 0, .int .i64 0, .slice none 0 0, .int .i64 6, .int .i64 0, .int .i64 0, .slice none 0 0, .int .i64 9, .int .i64 2, .int .i64 0, .slice none 0 0, .int .i64 6, .int .i64 0, .int .i64 0, .slice none 0 0, .int .i64 0, .int .i64 3, .int .i64 0, .slice a7 na c7, .int .i64 0, .int .i64 1, .int .i64 0, .slice a8 nb c8, .int .i64 0, .int .i64 2, .int .i64 0, .slice a9 nb c9, .int .i64 0, .int .i64 3, .int .i64 0, .slice a10 nb c10, .int .i64 1, .int .i64 1, .int .i64 0, .slice a11 0 c11, .int .i64 1, .int .i64 2, .int .i64 0, .slice a12 0 c12, .int .i64 1, .int .i64 3, .int .i64 0, .slice a13 0 c13] 26)) = wA at AX FA ⊢
  clear GA P1 P7 P8 P9 P10 P11 P12 P13
  refine (runHashes_any wA kind _ 13 13 _ AX.out (by omega)).mono ?_
  rintro e wB ⟨aB, cB, vs, rfl, RB, GB⟩
  have FB := FA.trans GB
  clear AX FA GB
  rw [← HRO.out.1, ← HRO.out.2] at RB
  have hrs : runH r o [⟨0, 0, 0, a⟩, ⟨5, 0, 0, []⟩, ⟨7, 0, 0, []⟩, ⟨6, 0, 0, []⟩, ⟨9, 2, 0, []⟩, ⟨6, 0, 0, []⟩, ⟨0, 3, 0, a⟩, ⟨0, 1, 0, b⟩, ⟨0, 2, 0, b⟩, ⟨0, 3, 0, b⟩, ⟨1, 1, 0, []⟩, ⟨1, 2, 0, []⟩, ⟨1, 3, 0, []⟩] = [⟨a.length, a, true, false⟩, ⟨0, [], true, false⟩, ⟨0, [], true, false⟩, ⟨0, [], false, false⟩, ⟨0, [], true, false⟩, ⟨0, [], false, false⟩, ⟨a.length, a, true, false⟩, ⟨b.length, b, true, false⟩, ⟨b.length, b, true, false⟩, ⟨b.length, b, true, false⟩, ⟨0, hsum r o (a ++ b), false, false⟩, ⟨0, hsum r o (a ++ b), false, false⟩, ⟨0, hsum r o (a ++ b), false, false⟩] := by kernel_rfl
  have RB' : RsI 31 5 wB wA.heap.size [] aB 13 cB (runH r o [⟨0, 0, 0, a⟩, ⟨5, 0, 0, []⟩, ⟨7, 0, 0, []⟩, ⟨6, 0, 0, []⟩, ⟨9, 2, 0, []⟩, ⟨6, 0, 0, []⟩, ⟨0, 3, 0, a⟩, ⟨0, 1, 0, b⟩, ⟨0, 2, 0, b⟩, ⟨0, 3, 0, b⟩, ⟨1, 1, 0, []⟩, ⟨1, 2, 0, []⟩, ⟨1, 3, 0, []⟩]) vs := RB
  rw [hrs] at RB'
  have D0 : SFnSavesAndClones w wA.heap.size aB 13 cB [⟨a.length, a, true, false⟩, ⟨0, [], true, false⟩, ⟨0, [], true, false⟩, ⟨0, [], false, false⟩, ⟨0, [], true, false⟩, ⟨0, [], false, false⟩, ⟨a.length, a, true, false⟩, ⟨b.length, b, true, false⟩, ⟨b.length, b, true, false⟩, ⟨b.length, b, true, false⟩, ⟨0, hsum r o (a ++ b), false, false⟩, ⟨0, hsum r o (a ++ b), false, false⟩, ⟨0, hsum r o (a ++ b), false, false⟩] vs pa na ca a pb nb cb b wB := ⟨RB', H0a.out.keep0 FB, H0b.out.keep0 FB, FB⟩
  clear RB RB' hrs FB
  obtain ⟨g, hg, hc1, hc2, _⟩ := D0.rs.cells (by decide)
  subst hg
  unfold maxLen at hc2
  have D00 := D0
  replace D0 := D00.keep (Fr.refl _ _).drew
  clear D00
  obtain ⟨kk, hkk⟩ : ∃ kk, kk = k5 kind := ⟨_, rfl⟩
  have hkl : kk < 5 := by rw [hkk]; exact k5_lt kind
  have hki : kind % 5 = (kk : Int) := by rw [hkk]; exact k5_int kind
  have HOK : Hid (o = oOf kk) := by rw [hkk]; exact HRO.out.2
  clear hkk
  obtain ⟨T, hT⟩ : ∃ T : Int, T = Int.tmod kind 5 := ⟨_, rfl⟩
  have hT1 : -5 < T ∧ T < 5 := by rw [hT]; exact ⟨Int.lt_tmod_of_pos kind (by decide), Int.tmod_lt_of_pos kind (by decide)⟩
  have hT2 : (T + 5) % 5 = (kk : Int) := by rw [hT, tmod_add_emod' kind 5 (by decide), hki]
  have d1 : Int.tmod kind 5 = T := hT.symm
  have d2 : Int.tmod (T + 5) 5 = (kk : Int) := by rw [Int.tmod_eq_emod_of_nonneg (by omega)]; exact hT2
  have e1 : IntKind.i64.wrap T = T := IntWalk.i64_in _ (by omega)
  have e2 : IntKind.i64.wrap (T + 5) = T + 5 := IntWalk.i64_in _ (by omega)
  have e3 : IntKind.i64.wrap (kk : Int) = (kk : Int) := IntWalk.i64_in _ (by omega)
  have hk5 : (kk : Int) < 5 := by omega
  clear hT hT2 hki
  have tz10 : (((hsum r o (a ++ b)).length : Int) == (o : Int)) = true := by rw [beq_iff_eq, hsum_length]
  have tok1 : True := trivial
  have tok2 : True := trivial
  have tok3 : True := trivial
  go_wp2_with fail
  refine wp_region_held_drew (S := fun w' => w'.cell? ⟨g, 41, none⟩ = some (.slice (vs.getD 10 (none, 0)).1 (hsum r o (a ++ b)).length (vs.getD 10 (none, 0)).2) ∧ w'.cell? ⟨g, 45, none⟩ = some (.slice (vs.getD 11 (none, 0)).1 (hsum r o (a ++ b)).length (vs.getD 11 (none, 0)).2) ∧ w'.cell? ⟨g, 49, none⟩ = some (.slice (vs.getD 12 (none, 0)).1 (hsum r o (a ++ b)).length (vs.getD 12 (none, 0)).2) ∧ SFnSavesAndClones w wA.heap.size (some ⟨g, 0, none⟩) 13 cB [⟨a.length, a, true, false⟩, ⟨0, [], true, false⟩, ⟨0, [], true, false⟩, ⟨0, [], false, false⟩, ⟨0, [], true, false⟩, ⟨0, [], false, false⟩, ⟨a.length, a, true, false⟩, ⟨b.length, b, true, false⟩, ⟨b.length, b, true, false⟩, ⟨b.length, b, true, false⟩, ⟨0, hsum r o (a ++ b), false, false⟩, ⟨0, hsum r o (a ++ b), false, false⟩, ⟨0, hsum r o (a ++ b), false, false⟩] vs pa na ca a pb nb cb b w') (by kernel_rfl) ⟨RsI_cell D0.rs 10 1 (by decide) (by decide), RsI_cell D0.rs 11 1 (by decide) (by decide), RsI_cell D0.rs 12 1 (by decide) (by decide), D0⟩ (fun hHeld0 => ?_)
  refine wpAnyH_take (i := 0) (v := ?_) rfl (by kernel_rfl) (by kernel_rfl) (by kernel_rfl) (fun _ _ _ h => h) (Or.inl ⟨by rfl, ?_⟩) (by assumption) ?_
  rotate_left
  · intro w hSw
    try dsimp only at hSw
    go_simp
    all_goals with_reducible rfl
  try simp only [List.getElem_toArray, List.getElem_cons_zero, Act.put, List.setIfInBounds_toArray, List.set_cons_zero, List.set_cons_succ]
  refine wpAnyH_take (i := 1) (v := ?_) rfl (by kernel_rfl) (by kernel_rfl) (by kernel_rfl) (fun _ _ _ h => h) (Or.inl ⟨by rfl, ?_⟩) (by assumption) ?_
  rotate_left
  · intro w hSw
    try dsimp only at hSw
    go_simp
    all_goals with_reducible rfl
  try simp only [List.getElem_toArray, List.getElem_cons_succ, List.getElem_cons_zero, Act.put, List.setIfInBounds_toArray, List.set_cons_zero, List.set_cons_succ]
  refine wpAnyH_take (i := 2) (v := ?_) rfl (by kernel_rfl) (by kernel_rfl) (by kernel_rfl) (fun _ _ _ h => h) (Or.inl ⟨by rfl, ?_⟩) (by assumption) ?_
  rotate_left
  · intro w hSw
    try dsimp only at hSw
    go_simp
    all_goals with_reducible rfl
  try simp only [List.getElem_toArray, List.getElem_cons_succ, List.getElem_cons_zero, Act.put, List.setIfInBounds_toArray, List.set_cons_zero, List.set_cons_succ]
  refine wpAnyH_take (i := 3) (v := ?_) rfl (by kernel_rfl) (by kernel_rfl) (by kernel_rfl) (fun _ _ _ h => h) (Or.inl ⟨by rfl, ?_⟩) (by assumption) ?_
  rotate_left
  · intro w hSw
    try dsimp only at hSw
    go_simp
    all_goals with_reducible rfl
  try simp only [List.getElem_toArray, List.getElem_cons_succ, List.getElem_cons_zero, Act.put, List.setIfInBounds_toArray, List.set_cons_zero, List.set_cons_succ]
  refine wpAnyH_take (i := 4) (v := ?_) rfl (by kernel_rfl) (by kernel_rfl) (by kernel_rfl) (fun _ _ _ h => h) (Or.inl ⟨by rfl, ?_⟩) (by assumption) ?_
  rotate_left
  · intro w hSw
    try dsimp only at hSw
    go_simp
    all_goals with_reducible rfl
  try simp only [List.getElem_toArray, List.getElem_cons_succ, List.getElem_cons_zero, Act.put, List.setIfInBounds_toArray, List.set_cons_zero, List.set_cons_succ]
  refine wpAnyH_take (i := 5) (v := ?_) rfl (by kernel_rfl) (by kernel_rfl) (by kernel_rfl) (fun _ _ _ h => h) (Or.inl ⟨by rfl, ?_⟩) (by assumption) ?_
  rotate_left
  · intro w hSw
    try dsimp only at hSw
    go_simp
    all_goals with_reducible rfl
  try simp only [List.getElem_toArray, List.getElem_cons_succ, List.getElem_cons_zero, Act.put, List.setIfInBounds_toArray, List.set_cons_zero, List.set_cons_succ]
  refine wpAnyH_take (i := 6) (v := ?_) rfl (by kernel_rfl) (by kernel_rfl) (by kernel_rfl) (fun _ _ _ h => h) (Or.inl ⟨by rfl, ?_⟩) (by assumption) ?_
  rotate_left
  · intro w hSw
    try dsimp only at hSw
    go_simp
    all_goals with_reducible rfl
  try simp only [List.getElem_toArray, List.getElem_cons_succ, List.getElem_cons_zero, Act.put, List.setIfInBounds_toArray, List.set_cons_zero, List.set_cons_succ]
  refine wpAnyH_take (i := 7) (v := ?_) rfl (by kernel_rfl) (by kernel_rfl) (by kernel_rfl) (fun _ _ _ h => h) (Or.inl ⟨by rfl, ?_⟩) (by assumption) ?_
  rotate_left
  · intro w hSw
    try dsimp only at hSw
    go_simp
    all_goals with_reducible rfl
  try simp only [List.getElem_toArray, List.getElem_cons_succ, List.getElem_cons_zero, Act.put, List.setIfInBounds_toArray, List.set_cons_zero, List.set_cons_succ]
  refine wpAnyH_take (i := 8) (v := ?_) rfl (by kernel_rfl) (by kernel_rfl) (by kernel_rfl) (fun _ _ _ h => h) (Or.inl ⟨by rfl, ?_⟩) (by assumption) ?_
  rotate_left
  · intro w hSw
    try dsimp only at hSw
    go_simp
    all_goals with_reducible rfl
  try simp only [List.getElem_toArray, List.getElem_cons_succ, List.getElem_cons_zero, Act.put, List.setIfInBounds_toArray, List.set_cons_zero, List.set_cons_succ]
  refine wpAnyH_take (i := 10) (v := ?_) rfl (by kernel_rfl) (by kernel_rfl) (by kernel_rfl) (fun _ _ _ h => h) (Or.inl ⟨by rfl, ?_⟩) (by assumption) ?_
  rotate_left
  · intro w hSw
    try dsimp only at hSw
    go_simp
    all_goals with_reducible rfl
  try simp only [List.getElem_toArray, List.getElem_cons_succ, List.getElem_cons_zero, Act.put, List.setIfInBounds_toArray, List.set_cons_zero, List.set_cons_succ]
  refine wpAnyH_take (i := 11) (v := ?_) rfl (by kernel_rfl) (by kernel_rfl) (by kernel_rfl) (fun _ _ _ h => h) (Or.inl ⟨by rfl, ?_⟩) (by assumption) ?_
  rotate_left
  · intro w hSw
    try dsimp only at hSw
    go_simp
    all_goals with_reducible rfl
  try simp only [List.getElem_toArray, List.getElem_cons_succ, List.getElem_cons_zero, Act.put, List.setIfInBounds_toArray, List.set_cons_zero, List.set_cons_succ]
  refine wpAnyH_take (i := 12) (v := ?_) rfl (by kernel_rfl) (by kernel_rfl) (by kernel_rfl) (fun _ _ _ h => h) (Or.inl ⟨by rfl, ?_⟩) (by assumption) ?_
  rotate_left
  · intro w hSw
    try dsimp only at hSw
    go_simp
    all_goals with_reducible rfl
  try simp only [List.getElem_toArray, List.getElem_cons_succ, List.getElem_cons_zero, Act.put, List.setIfInBounds_toArray, List.set_cons_zero, List.set_cons_succ]
  refine wpAnyH_take (i := 13) (v := ?_) rfl (by kernel_rfl) (by kernel_rfl) (by kernel_rfl) (fun _ _ _ h => h) (Or.inl ⟨by rfl, ?_⟩) (by assumption) ?_
  rotate_left
  · intro w hSw
    try dsimp only at hSw
    go_simp
    all_goals with_reducible rfl
  try simp only [List.getElem_toArray, List.getElem_cons_succ, List.getElem_cons_zero, Act.put, List.setIfInBounds_toArray, List.set_cons_zero, List.set_cons_succ]
  refine wpAnyH_ready (rs := [9]) (by kernel_rfl) (by simp) ?_
  refine AllReadyH.cons rfl (fun K hK => ?_) AllReadyH.nil
  go_simp
  go_at_call 16
  refine (sizes_sz _).mono ?_
  rintro e u1 ⟨gz1, rfl, _, hz1, f1⟩
  have D1 := D0.keep f1
  have qz1 := hz1.cell kk hkl
  rw [← HOK.out] at qz1
  clear hz1
  refine hK.out _ _ ⟨RsI_cell D1.rs 10 1 (by decide) (by decide), RsI_cell D1.rs 11 1 (by decide) (by decide), RsI_cell D1.rs 12 1 (by decide) (by decide), D1⟩ (fun hHeld1 => ?_)
  refine wpAnyH_sub (S' := fun w' => w'.cell? ⟨gz1, kk, none⟩ = some (.int .i64 (o : Int)) ∧ w'.cell? ⟨g, 41, none⟩ = some (.slice (vs.getD 10 (none, 0)).1 (hsum r o (a ++ b)).length (vs.getD 10 (none, 0)).2) ∧ w'.cell? ⟨g, 45, none⟩ = some (.slice (vs.getD 11 (none, 0)).1 (hsum r o (a ++ b)).length (vs.getD 11 (none, 0)).2) ∧ w'.cell? ⟨g, 49, none⟩ = some (.slice (vs.getD 12 (none, 0)).1 (hsum r o (a ++ b)).length (vs.getD 12 (none, 0)).2) ∧ SFnSavesAndClones w wA.heap.size (some ⟨g, 0, none⟩) 13 cB [⟨a.length, a, true, false⟩, ⟨0, [], true, false⟩, ⟨0, [], true, false⟩, ⟨0, [], false, false⟩, ⟨0, [], true, false⟩, ⟨0, [], false, false⟩, ⟨a.length, a, true, false⟩, ⟨b.length, b, true, false⟩, ⟨b.length, b, true, false⟩, ⟨b.length, b, true, false⟩, ⟨0, hsum r o (a ++ b), false, false⟩, ⟨0, hsum r o (a ++ b), false, false⟩, ⟨0, hsum r o (a ++ b), false, false⟩] vs pa na ca a pb nb cb b w') (fun w' h => h.2) _ _ _ _ ?_
  have hHeldB1 : (fun w' => w'.cell? ⟨gz1, kk, none⟩ = some (.int .i64 (o : Int)) ∧ w'.cell? ⟨g, 41, none⟩ = some (.slice (vs.getD 10 (none, 0)).1 (hsum r o (a ++ b)).length (vs.getD 10 (none, 0)).2) ∧ w'.cell? ⟨g, 45, none⟩ = some (.slice (vs.getD 11 (none, 0)).1 (hsum r o (a ++ b)).length (vs.getD 11 (none, 0)).2) ∧ w'.cell? ⟨g, 49, none⟩ = some (.slice (vs.getD 12 (none, 0)).1 (hsum r o (a ++ b)).length (vs.getD 12 (none, 0)).2) ∧ SFnSavesAndClones w wA.heap.size (some ⟨g, 0, none⟩) 13 cB [⟨a.length, a, true, false⟩, ⟨0, [], true, false⟩, ⟨0, [], true, false⟩, ⟨0, [], false, false⟩, ⟨0, [], true, false⟩, ⟨0, [], false, false⟩, ⟨a.length, a, true, false⟩, ⟨b.length, b, true, false⟩, ⟨b.length, b, true, false⟩, ⟨b.length, b, true, false⟩, ⟨0, hsum r o (a ++ b), false, false⟩, ⟨0, hsum r o (a ++ b), false, false⟩, ⟨0, hsum r o (a ++ b), false, false⟩] vs pa na ca a pb nb cb b w') u1 := ⟨qz1, hHeld1⟩
  clear hK K
  try simp only [List.getElem_toArray, List.getElem_cons_succ, List.getElem_cons_zero, Act.put, List.setIfInBounds_toArray, List.set_cons_zero, List.set_cons_succ]
  refine wpAnyH_take (i := 14) (v := ?_) rfl (by kernel_rfl) (by kernel_rfl) (by kernel_rfl) (fun _ _ _ h => h) (Or.inl ⟨by rfl, ?_⟩) (by assumption) ?_
  rotate_left
  · intro w hSw
    try dsimp only at hSw
    go_simp
    all_goals with_reducible rfl
  try simp only [List.getElem_toArray, List.getElem_cons_succ, List.getElem_cons_zero, Act.put, List.setIfInBounds_toArray, List.set_cons_zero, List.set_cons_succ]
  refine wpAnyH_take (i := 15) (v := ?_) rfl (by kernel_rfl) (by kernel_rfl) (by kernel_rfl) (fun _ _ _ h => h) (Or.inl ⟨by rfl, ?_⟩) (by assumption) ?_
  rotate_left
  · intro w hSw
    try dsimp only at hSw
    go_simp
    all_goals with_reducible rfl
  try simp only [List.getElem_toArray, List.getElem_cons_succ, List.getElem_cons_zero, Act.put, List.setIfInBounds_toArray, List.set_cons_zero, List.set_cons_succ]
  refine wpAnyH_take (i := 16) (v := ?_) rfl (by kernel_rfl) (by kernel_rfl) (by kernel_rfl) (fun _ _ _ h => h) (Or.inl ⟨by rfl, ?_⟩) (by assumption) ?_
  rotate_left
  · intro w hSw
    try dsimp only at hSw
    go_simp
    all_goals with_reducible rfl
  try simp only [List.getElem_toArray, List.getElem_cons_succ, List.getElem_cons_zero, Act.put, List.setIfInBounds_toArray, List.set_cons_zero, List.set_cons_succ]
  refine wpAnyH_take (i := 17) (v := ?_) rfl (by kernel_rfl) (by kernel_rfl) (by kernel_rfl) (fun _ _ _ h => h) (Or.inl ⟨by rfl, ?_⟩) (by assumption) ?_
  rotate_left
  · intro w hSw
    try dsimp only at hSw
    go_simp
    all_goals with_reducible rfl
  try simp only [List.getElem_toArray, List.getElem_cons_succ, List.getElem_cons_zero, Act.put, List.setIfInBounds_toArray, List.set_cons_zero, List.set_cons_succ]
  refine wpAnyH_take (i := 18) (v := ?_) rfl (by kernel_rfl) (by kernel_rfl) (by kernel_rfl) (fun _ _ _ h => h) (Or.inl ⟨by rfl, ?_⟩) (by assumption) ?_
  rotate_left
  · intro w hSw
    try dsimp only at hSw
    go_simp
    all_goals with_reducible rfl
  try simp only [List.getElem_toArray, List.getElem_cons_succ, List.getElem_cons_zero, Act.put, List.setIfInBounds_toArray, List.set_cons_zero, List.set_cons_succ]
  refine wpAnyH_take (i := 19) (v := ?_) rfl (by kernel_rfl) (by kernel_rfl) (by kernel_rfl) (fun _ _ _ h => h) (Or.inl ⟨by rfl, ?_⟩) (by assumption) ?_
  rotate_left
  · intro w hSw
    try dsimp only at hSw
    go_simp
    all_goals with_reducible rfl
  try simp only [List.getElem_toArray, List.getElem_cons_succ, List.getElem_cons_zero, Act.put, List.setIfInBounds_toArray, List.set_cons_zero, List.set_cons_succ]
  refine wpAnyH_take (i := 20) (v := ?_) rfl (by kernel_rfl) (by kernel_rfl) (by kernel_rfl) (fun _ _ _ h => h) (Or.inl ⟨by rfl, ?_⟩) (by assumption) ?_
  rotate_left
  · intro w hSw
    try dsimp only at hSw
    go_simp
    all_goals with_reducible rfl
  try simp only [List.getElem_toArray, List.getElem_cons_succ, List.getElem_cons_zero, Act.put, List.setIfInBounds_toArray, List.set_cons_zero, List.set_cons_succ]
  refine wpAnyH_take (i := 21) (v := ?_) rfl (by kernel_rfl) (by kernel_rfl) (by kernel_rfl) (fun _ _ _ h => h) (Or.inl ⟨by rfl, ?_⟩) (by assumption) ?_
  rotate_left
  · intro w hSw
    try dsimp only at hSw
    go_simp
    all_goals with_reducible rfl
  try simp only [List.getElem_toArray, List.getElem_cons_succ, List.getElem_cons_zero, Act.put, List.setIfInBounds_toArray, List.set_cons_zero, List.set_cons_succ]
  refine wpAnyH_take (i := 22) (v := ?_) rfl (by kernel_rfl) (by kernel_rfl) (by kernel_rfl) (fun _ _ _ h => h) (Or.inl ⟨by rfl, ?_⟩) (by assumption) ?_
  rotate_left
  · intro w hSw
    try dsimp only at hSw
    go_simp
    all_goals with_reducible rfl
  try simp only [List.getElem_toArray, List.getElem_cons_succ, List.getElem_cons_zero, Act.put, List.setIfInBounds_toArray, List.set_cons_zero, List.set_cons_succ]
  refine wpAnyH_take (i := 23) (v := ?_) rfl (by kernel_rfl) (by kernel_rfl) (by kernel_rfl) (fun _ _ _ h => h) (Or.inl ⟨by rfl, ?_⟩) (by assumption) ?_
  rotate_left
  · intro w hSw
    try dsimp only at hSw
    go_simp
    all_goals with_reducible rfl
  try simp only [List.getElem_toArray, List.getElem_cons_succ, List.getElem_cons_zero, Act.put, List.setIfInBounds_toArray, List.set_cons_zero, List.set_cons_succ]
  refine wpAnyH_take (i := 24) (v := ?_) rfl (by kernel_rfl) (by kernel_rfl) (by kernel_rfl) (fun _ _ _ h => h) (Or.inl ⟨by rfl, ?_⟩) (by assumption) ?_
  rotate_left
  · intro w hSw
    try dsimp only at hSw
    go_simp
    all_goals with_reducible rfl
  try simp only [List.getElem_toArray, List.getElem_cons_succ, List.getElem_cons_zero, Act.put, List.setIfInBounds_toArray, List.set_cons_zero, List.set_cons_succ]
  refine wpAnyH_take (i := 25) (v := ?_) rfl (by kernel_rfl) (by kernel_rfl) (by kernel_rfl) (fun _ _ _ h => h) (Or.inl ⟨by rfl, ?_⟩) (by assumption) ?_
  rotate_left
  · intro w hSw
    try dsimp only at hSw
    go_simp
    all_goals with_reducible rfl
  try simp only [List.getElem_toArray, List.getElem_cons_succ, List.getElem_cons_zero, Act.put, List.setIfInBounds_toArray, List.set_cons_zero, List.set_cons_succ]
  refine wpAnyH_take (i := 26) (v := ?_) rfl (by kernel_rfl) (by kernel_rfl) (by kernel_rfl) (fun _ _ _ h => h) (Or.inl ⟨by rfl, ?_⟩) (by assumption) ?_
  rotate_left
  · intro w hSw
    try dsimp only at hSw
    go_simp
    all_goals with_reducible rfl
  try simp only [List.getElem_toArray, List.getElem_cons_succ, List.getElem_cons_zero, Act.put, List.setIfInBounds_toArray, List.set_cons_zero, List.set_cons_succ]
  refine wpAnyH_ready (rs := [27]) (by kernel_rfl) (by simp) ?_
  refine AllReadyH.cons rfl (fun K hK => ?_) AllReadyH.nil
  go_simp
  go_at_call 17
  refine (same_t _ _ _ _ _ _ (hsum r o (a ++ b)) (hsum r o (a ++ b)) _ (RsI_sl D1.rs 10 (by decide)) (RsI_sl D1.rs 11 (by decide)) rfl).mono ?_
  rintro e u2 ⟨rfl, f2⟩
  have D2 := D1.keep f2
  have qz2 := f2.cell qz1 (by simp)
  refine hK.out _ _ ⟨qz2, RsI_cell D2.rs 10 1 (by decide) (by decide), RsI_cell D2.rs 11 1 (by decide) (by decide), RsI_cell D2.rs 12 1 (by decide) (by decide), D2⟩ (fun hHeld2 => ?_)
  clear hK K
  try simp only [List.getElem_toArray, List.getElem_cons_succ, List.getElem_cons_zero, Act.put, List.setIfInBounds_toArray, List.set_cons_zero, List.set_cons_succ]
  refine wpAnyH_take (i := 28) (v := ?_) rfl (by kernel_rfl) (by kernel_rfl) (by kernel_rfl) (fun _ _ _ h => h) (Or.inl ⟨by rfl, ?_⟩) (by assumption) ?_
  rotate_left
  · intro w hSw
    try dsimp only at hSw
    go_simp
    all_goals with_reducible rfl
  try simp only [List.getElem_toArray, List.getElem_cons_succ, List.getElem_cons_zero, Act.put, List.setIfInBounds_toArray, List.set_cons_zero, List.set_cons_succ]
  refine wpAnyH_take (i := 29) (v := ?_) rfl (by kernel_rfl) (by kernel_rfl) (by kernel_rfl) (fun _ _ _ h => h) (Or.inl ⟨by rfl, ?_⟩) (by assumption) ?_
  rotate_left
  · intro w hSw
    try dsimp only at hSw
    go_simp
    all_goals with_reducible rfl
  try simp only [List.getElem_toArray, List.getElem_cons_succ, List.getElem_cons_zero, Act.put, List.setIfInBounds_toArray, List.set_cons_zero, List.set_cons_succ]
  refine wpAnyH_take (i := 30) (v := ?_) rfl (by kernel_rfl) (by kernel_rfl) (by kernel_rfl) (fun _ _ _ h => h) (Or.inl ⟨by rfl, ?_⟩) (by assumption) ?_
  rotate_left
  · intro w hSw
    try dsimp only at hSw
    go_simp
    all_goals with_reducible rfl
  try simp only [List.getElem_toArray, List.getElem_cons_succ, List.getElem_cons_zero, Act.put, List.setIfInBounds_toArray, List.set_cons_zero, List.set_cons_succ]
  refine wpAnyH_take (i := 31) (v := ?_) rfl (by kernel_rfl) (by kernel_rfl) (by kernel_rfl) (fun _ _ _ h => h) (Or.inl ⟨by rfl, ?_⟩) (by assumption) ?_
  rotate_left
  · intro w hSw
    try dsimp only at hSw
    go_simp
    all_goals with_reducible rfl
  try simp only [List.getElem_toArray, List.getElem_cons_succ, List.getElem_cons_zero, Act.put, List.setIfInBounds_toArray, List.set_cons_zero, List.set_cons_succ]
  refine wpAnyH_take (i := 32) (v := ?_) rfl (by kernel_rfl) (by kernel_rfl) (by kernel_rfl) (fun _ _ _ h => h) (Or.inl ⟨by rfl, ?_⟩) (by assumption) ?_
  rotate_left
  · intro w hSw
    try dsimp only at hSw
    go_simp
    all_goals with_reducible rfl
  try simp only [List.getElem_toArray, List.getElem_cons_succ, List.getElem_cons_zero, Act.put, List.setIfInBounds_toArray, List.set_cons_zero, List.set_cons_succ]
  refine wpAnyH_take (i := 33) (v := ?_) rfl (by kernel_rfl) (by kernel_rfl) (by kernel_rfl) (fun _ _ _ h => h) (Or.inl ⟨by rfl, ?_⟩) (by assumption) ?_
  rotate_left
  · intro w hSw
    try dsimp only at hSw
    go_simp
    all_goals with_reducible rfl
  try simp only [List.getElem_toArray, List.getElem_cons_succ, List.getElem_cons_zero, Act.put, List.setIfInBounds_toArray, List.set_cons_zero, List.set_cons_succ]
  refine wpAnyH_take (i := 34) (v := ?_) rfl (by kernel_rfl) (by kernel_rfl) (by kernel_rfl) (fun _ _ _ h => h) (Or.inl ⟨by rfl, ?_⟩) (by assumption) ?_
  rotate_left
  · intro w hSw
    try dsimp only at hSw
    go_simp
    all_goals with_reducible rfl
  try simp only [List.getElem_toArray, List.getElem_cons_succ, List.getElem_cons_zero, Act.put, List.setIfInBounds_toArray, List.set_cons_zero, List.set_cons_succ]
  refine wpAnyH_take (i := 35) (v := ?_) rfl (by kernel_rfl) (by kernel_rfl) (by kernel_rfl) (fun _ _ _ h => h) (Or.inl ⟨by rfl, ?_⟩) (by assumption) ?_
  rotate_left
  · intro w hSw
    try dsimp only at hSw
    go_simp
    all_goals with_reducible rfl
  try simp only [List.getElem_toArray, List.getElem_cons_succ, List.getElem_cons_zero, Act.put, List.setIfInBounds_toArray, List.set_cons_zero, List.set_cons_succ]
  refine wpAnyH_take (i := 36) (v := ?_) rfl (by kernel_rfl) (by kernel_rfl) (by kernel_rfl) (fun _ _ _ h => h) (Or.inl ⟨by rfl, ?_⟩) (by assumption) ?_
  rotate_left
  · intro w hSw
    try dsimp only at hSw
    go_simp
    all_goals with_reducible rfl
  try simp only [List.getElem_toArray, List.getElem_cons_succ, List.getElem_cons_zero, Act.put, List.setIfInBounds_toArray, List.set_cons_zero, List.set_cons_succ]
  refine wpAnyH_take (i := 37) (v := ?_) rfl (by kernel_rfl) (by kernel_rfl) (by kernel_rfl) (fun _ _ _ h => h) (Or.inl ⟨by rfl, ?_⟩) (by assumption) ?_
  rotate_left
  · intro w hSw
    try dsimp only at hSw
    go_simp
    all_goals with_reducible rfl
  try simp only [List.getElem_toArray, List.getElem_cons_succ, List.getElem_cons_zero, Act.put, List.setIfInBounds_toArray, List.set_cons_zero, List.set_cons_succ]
  refine wpAnyH_ready (rs := [38]) (by kernel_rfl) (by simp) ?_
  refine AllReadyH.cons rfl (fun K hK => ?_) AllReadyH.nil
  go_simp
  go_at_call 17
  refine (same_t _ _ _ _ _ _ (hsum r o (a ++ b)) (hsum r o (a ++ b)) _ (RsI_sl D2.rs 10 (by decide)) (RsI_sl D2.rs 12 (by decide)) rfl).mono ?_
  rintro e u3 ⟨rfl, f3⟩
  have D3 := D2.keep f3
  have qz3 := f3.cell qz2 (by simp)
  refine hK.out _ _ ⟨qz3, RsI_cell D3.rs 10 1 (by decide) (by decide), RsI_cell D3.rs 11 1 (by decide) (by decide), RsI_cell D3.rs 12 1 (by decide) (by decide), D3⟩ (fun hHeld3 => ?_)
  clear hK K
  try simp only [List.getElem_toArray, List.getElem_cons_succ, List.getElem_cons_zero, Act.put, List.setIfInBounds_toArray, List.set_cons_zero, List.set_cons_succ]
  refine wpAnyH_take (i := 39) (v := ?_) rfl (by kernel_rfl) (by kernel_rfl) (by kernel_rfl) (fun _ _ _ h => h) (Or.inl ⟨by rfl, ?_⟩) (by assumption) ?_
  rotate_left
  · intro w hSw
    try dsimp only at hSw
    go_simp
    all_goals with_reducible rfl
  try simp only [List.getElem_toArray, List.getElem_cons_succ, List.getElem_cons_zero, Act.put, List.setIfInBounds_toArray, List.set_cons_zero, List.set_cons_succ]
  refine wpAnyH_take (i := 40) (v := ?_) rfl (by kernel_rfl) (by kernel_rfl) (by kernel_rfl) (fun _ _ _ h => h) (Or.inl ⟨by rfl, ?_⟩) (by assumption) ?_
  rotate_left
  · intro w hSw
    try dsimp only at hSw
    go_simp
    all_goals with_reducible rfl
  try simp only [List.getElem_toArray, List.getElem_cons_succ, List.getElem_cons_zero, Act.put, List.setIfInBounds_toArray, List.set_cons_zero, List.set_cons_succ]
  refine wpAnyH_done (by kernel_rfl) ?_ _
  go_wp2_with fail
  go_ret
  exact ⟨by simp, D3.fr⟩
end Go.Proofs.Ytfgfhdkedmgfiaa
end

section
namespace Go.Proofs.Ytfgfhdkedmgfiaa.rFnSavesAndClones
open Go.ChangeShapes Go.WideShapes Go.ChangeAt Go.RowKit Go.Sha
set_option linter.unusedVariables false

theorem own : ownKnob Try.prog.godebug = none := by kernel_rfl
theorem laidOut : laidOutB Try.prog = true := by kernel_rfl

set_option maxRecDepth 100000 in
theorem lifted (os : Os) (started : os.Started) (H : Type) (enc : TypeId × Value → H) :
    ReturnsInHanded {} Try.checked os 3 .any (Rows.fnSavesAndClonesSpec.pre6 enc Try.prog Try.f3 Rows.fnSavesAndClonesRow.domain false) (Rows.fnSavesAndClonesSpec.post enc Try.prog Try.f3 false true false false) := by
  refine returnsInHanded_of_change_sized (C := Try.checked) own started (by kernel_rfl) Try.func3
    (ChangeSpec.witness6 (enc := enc) (C := Try.checked) false ⟨#[], #[.int .i64 0, .slice none 0 0, .slice none 0 0], []⟩ 8 (by kernel_rfl) (by kernel_rfl) (by kernel_rfl) (by kernel_rfl)) ?_
  intro W base args ds gs before hval0 hW hcnd hsz0 _
  have hsz : (DataW.weightsEach Try.prog (Try.f3.params.toList ++ Rows.fnSavesAndClonesSpec.plain.varTypes Try.prog) (ds ++ gs)).all (· ≤ reachBytes) = true := hsz0
  have hval : ∀ (j : Nat) t v, Try.f3.params[j]? = some t → args[j]? = some v → Value.okWide Try.prog W .any base t v := hval0
  have hW' := hW
  obtain ⟨p, q, hA0, hV, rfl, hfz, hnd⟩ := hW
  have hA : DataW.TrodAll enc Try.prog W 0 (fun _ => true) true Try.f3.params.toList args.toList ds p := hA0
  rw [Try.params3] at hA hval hsz
  obtain ⟨v0, vs0, d0, ds0, p0, q0, hargs, rfl, rfl, h0, r0⟩ := trodAll_cons hA
  obtain ⟨v1, vs1, d1, ds1, p1, q1, rfl, rfl, rfl, h1, r1⟩ := trodAll_cons r0
  obtain ⟨v2, vs2, d2, ds2, p2, q2, rfl, rfl, rfl, h2, r2⟩ := trodAll_cons r1
  obtain ⟨rfl, rfl, rfl⟩ := trodAll_nil r2
  obtain rfl : args = #[v0, v1, v2] := by cases args; simp_all
  obtain ⟨rfl, rfl⟩ := trodVars_none hV
  obtain ⟨a0, rfl, rfl, rfl, w0⟩ := open_int Try.underlying3 (hval 0 3 v0 rfl rfl) h0
  obtain ⟨a1, len1, cap1, rfl⟩ := okWide_slice Try.underlying22 (hval 1 22 v1 rfl rfl)
  have k1 := h1
  have lt1 : ∀ x ∈ p1, x.block < W.heap.size := by obtain ⟨m, hm⟩ := k1; exact DataW.trod_lt m _ _ _ hm
  obtain ⟨fuel1, hf1⟩ := h1
  obtain ⟨l1, s1, dl1⟩ := open_bytes Try.underlying22 Try.underlying5 (by kernel_rfl) hf1
  have b1 := (dl1.reach hsz (j := 1) rfl rfl Try.underlying22 (by kernel_rfl)).1
  obtain ⟨a2, len2, cap2, rfl⟩ := okWide_slice Try.underlying22 (hval 2 22 v2 rfl rfl)
  have k2 := h2
  have lt2 : ∀ x ∈ p2, x.block < W.heap.size := by obtain ⟨m, hm⟩ := k2; exact DataW.trod_lt m _ _ _ hm
  obtain ⟨fuel2, hf2⟩ := h2
  obtain ⟨l2, s2, dl2⟩ := open_bytes Try.underlying22 Try.underlying5 (by kernel_rfl) hf2
  have b2 := (dl2.reach hsz (j := 2) rfl rfl Try.underlying22 (by kernel_rfl)).1
  clear hA0 hval0
  refine (fnSavesAndClones_walk a0 a1 len1 cap1 l1 a2 len2 cap2 l2 W s1 (by omega) s2 (by omega)).mono fun e W' ⟨he, hfr⟩ => ?_
  have bel := hfr.below
  subst he
  exact ⟨_, rfl, _, _, _, [], _, [], hW', trodAll_mk1 (shut_bool Try.underlying4 _), (trodAll_cons_mk (shut_int Try.underlying3 w0) (trodAll_cons_mk (Below.trod laidOut (by kernel_rfl) (of_decide_eq_true (by kernel_rfl)) k1 bel lt1) (trodAll_cons_mk (Below.trod laidOut (by kernel_rfl) (of_decide_eq_true (by kernel_rfl)) k2 bel lt2) trodAll_mk0))), rfl, bel.frame _, fun h => by cases h⟩

theorem proved : Rows.FnSavesAndClonesSaid :=
  OpenClaim.holds_of_wide 3 Try.f3 rfl rfl rfl rfl rfl rfl rfl ⟨rfl, rfl, rfl, rfl, rfl⟩ rfl rfl rfl rfl rfl (by kernel_rfl) Try.func3 (by kernel_rfl)
    (of_decide_eq_true (by kernel_rfl)) (by unfold Func.isWrapper; first | (rw [if_pos (by decide +kernel)]; kernel_rfl) | (rw [if_neg (by decide +kernel)]; exact ⟨rfl, rfl⟩))
    (fun os started H enc _ => lifted os started H enc)
#print axioms proved
end Go.Proofs.Ytfgfhdkedmgfiaa.rFnSavesAndClones
namespace Go.Proofs.Ytfgfhdkedmgfiaa
theorem fnSavesAndClones_holds : Rows.FnSavesAndClonesSaid := rFnSavesAndClones.proved
end Go.Proofs.Ytfgfhdkedmgfiaa
end
