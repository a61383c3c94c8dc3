/- FnSumAppends: for every input the law returns true, and each argument reads afterwards as it read before. No condition. -/
import Derived.Test.YtfgfhdkedmgfiaaGA
import Derived.Test.YtfgfhdkedmgfiaaGB
import Derived.Test.YtfgfhdkedmgfiaaGC
import Derived.Test.YtfgfhdkedmgfiaaGG
import Derived.Test.YtfgfhdkedmgfiaaGH
import Derived.Test.YtfgfhdkedmgfiaaGN
import Derived.Test.YtfgfhdkedmgfiaaGO
import Derived.Test.YtfgfhdkedmgfiaaGP
import Derived.Test.YtfgfhdkedmgfiaaGI
import Derived.Test.YtfgfhdkedmgfiaaGK
import Derived.Test.YtfgfhdkedmgfiaaGL
import Derived.Test.YtfgfhdkedmgfiaaGJ
import Derived.Below
import Derived.ChangeOld
import Derived.Deep.RegionHeld3
import Derived.ShutString
section
namespace Go.Proofs.Ytfgfhdkedmgfiaa
open Go.ChangeShapes Go.WideShapes Go.ChangeAt Go.RowKit Go.Sha
structure SFnSumAppends (w : World) (base : Nat) (ax : Option Addr) (nx cx : Nat) (rs : List Res) (vs : List (Option Addr × Nat)) (pdata : Option Addr) (ndata cdata : Nat) (data : Bs) (pahead : Option Addr) (nahead cahead : Nat) (ahead : Bs) (w' : World) : Prop where
  rs : RsI 31 5 w' base [] ax nx cx rs vs
  sdata : Sl w' pdata ndata cdata data
  sahead : Sl w' pahead nahead cahead ahead
  fr : Fr [] w w'
theorem SFnSumAppends.keep {w : World} {base : Nat} {ax : Option Addr} {nx cx : Nat} {rs : List Res} {vs : List (Option Addr × Nat)} {pdata : Option Addr} {ndata cdata : Nat} {data : Bs} {pahead : Option Addr} {nahead cahead : Nat} {ahead : Bs} {w1 w2 : World} (h : SFnSumAppends w base ax nx cx rs vs pdata ndata cdata data pahead nahead cahead ahead w1) (f : Fr [] w1 w2) : SFnSumAppends w base ax nx cx rs vs pdata ndata cdata data pahead nahead cahead ahead w2 :=
  ⟨h.rs.keep f (by simp), h.sdata.keep0 f, h.sahead.keep0 f, h.fr.trans f⟩
/-- a stronger condition may be held from here on -/
theorem wpAnyH_sub {P : Program} {md : Region.Mode} {ops : Array Oper} {Q : Exit → Act → World → Prop} {S S' : World → Prop} (hs : ∀ w, S' w → S w) : ∀ (fuel : Nat) (listed : Array Bool) (a : Act) (w : World), wpAnyH P md ops Q S' fuel listed a w → wpAnyH P md ops Q S fuel listed a w
  | 0, _, _, _, h => h
  | fuel + 1, _, _, _, h => ⟨h.1, fun i hi => wpOp_mono (fun a' w' h' => ⟨hs _ h'.1, wpAnyH_sub hs fuel _ a' w' h'.2⟩) (h.2 i hi)⟩
set_option maxRecDepth 100000 in
set_option maxHeartbeats 4000000 in
theorem fnSumAppends_walk (kind : Int) (pdata : Option Addr) (ndata cdata : Nat) (data : Bs) (pahead : Option Addr) (nahead cahead : Nat) (ahead : Bs) (w : World) (hdata : Sl w pdata ndata cdata data) (hndata : ndata ≤ 140737488351232) (hahead : Sl w pahead nahead cahead ahead) (hnahead : nahead ≤ 140737488351232) :
    Calls Try.prog 9 #[.int .i64 kind, .slice pdata ndata cdata, .slice pahead nahead cahead] w (RetB true w) := by
  have H_data := Lib.hid hdata.len
  have Ldata := H_data
  have H0data := Lib.hid hdata
  clear hdata
  have H_ahead := Lib.hid hahead.len
  have Lahead := H_ahead
  have H0ahead := Lib.hid hahead
  clear hahead
  have F0 := Fr.refl [] w

  obtain ⟨r, hr⟩ : ∃ r, r = rOf (k5 kind) := ⟨_, rfl⟩
  obtain ⟨o, ho⟩ : ∃ o, o = oOf (k5 kind) := ⟨_, rfl⟩
  have hrt : Rt r o := by rw [hr, ho]; exact rt_of _ (k5_lt kind)
  have hole := hrt.ole
  have hopos := hrt.opos

  have HRO := Lib.hid (And.intro hr ho)
  clear hr ho hrt
  go_enter Try.func9, Try.ntmps9
  go_wp2_with fail
  refine (lwrite_any 0 _ ndata _ data _ (H0data.out.keep0 F0) (by omega)).mono ?_
  rintro e w1 ⟨a1, c1, rfl, O1, G⟩
  have F1 := F0.trans G
  have P1 := Lib.hid (O1.sl_at H_data.out)
  clear O1 G
  go_wp2_with fail
  refine (lask_any 0 _ 0 _ [] _ (Sl.nil0 _) (by omega)).mono ?_
  rintro e w2 ⟨a2, c2, rfl, O2, G⟩
  have F2 := F1.trans G
  replace P1 := Lib.hid (P1.out.keep0 G)
  have P2 := Lib.hid (O2.sl_at rfl)
  clear O2 G
  go_wp2_with fail
  refine (lask_any 0 _ nahead _ ahead _ (H0ahead.out.keep0 F2) (by omega)).mono ?_
  rintro e w3 ⟨a3, c3, rfl, O3, G⟩
  have F3 := F2.trans G
  replace P1 := Lib.hid (P1.out.keep0 G)
  replace P2 := Lib.hid (P2.out.keep0 G)
  have P3 := Lib.hid (O3.sl_at H_ahead.out)
  clear O3 G
  go_wp2_with fail
  have GA : Fr [] w3 (w3.alloc (.cells #[.int .i64 0, .int .i64 0, .int .i64 0, .slice a1 ndata c1, .int .i64 1, .int .i64 0, .int .i64 0, .slice a2 0 c2, .int .i64 1, .int .i64 0, .int .i64 0, .slice a3 nahead c3] 26)) := (Fr.refl _ _).alloc _
  have AX : Hid (ActsAt (w3.alloc (.cells #[.int .i64 0, .int .i64 0, .int .i64 0, .slice a1 ndata c1, .int .i64 1, .int .i64 0, .int .i64 0, .slice a2 0 c2, .int .i64 1, .int .i64 0, .int .i64 0, .slice a3 nahead c3] 26)) (some ⟨w3.heap.size, 0, none⟩) 3 3 (([(⟨0, 0, 0, data⟩, (a1, ndata, c1)), (⟨1, 0, 0, []⟩, (a2, 0, c2)), (⟨1, 0, 0, ahead⟩, (a3, nahead, c3))] : List (Actn × (Option Addr × Nat × Nat))).map (·.1))) := ActsAt.of_list [(⟨0, 0, 0, data⟩, (a1, ndata, c1)), (⟨1, 0, 0, []⟩, (a2, 0, c2)), (⟨1, 0, 0, ahead⟩, (a3, nahead, c3))] (Go.heap_alloc_new w3 _) (fun p hp => by
    simp only [List.mem_cons, List.not_mem_nil, or_false] at hp
    rcases hp with rfl | rfl | rfl
    · exact ⟨P1.out.keep0 GA, by simp only; omega⟩
    · exact ⟨P2.out.keep0 GA, by simp only; omega⟩
    · exact ⟨P3.out.keep0 GA, by simp only; omega⟩
    ) (by simp [maxLen])
  have FA := F3.trans GA
  generalize (w3.alloc (.cells #[.int .i64 0, .int .i64 0, .int .i64 0, .slice a1 ndata c1, .int .i64 1, .int .i64 0, .int .i64 0, .slice a2 0 c2, .int .i64 1, .int .i64 0, .int .i64 0, .slice a3 nahead c3] 26)) = wA at AX FA ⊢
  clear GA P1 P2 P3
  refine (runHashes_any wA kind _ 3 3 _ AX.out (by omega)).mono ?_
  rintro e wB ⟨aB, cB, vs, rfl, RB, GB⟩
  have FB := FA.trans GB
  clear AX FA GB
  rw [← HRO.out.1, ← HRO.out.2] at RB
  have hrs : runH r o [⟨0, 0, 0, data⟩, ⟨1, 0, 0, []⟩, ⟨1, 0, 0, ahead⟩] = [⟨data.length, data, true, false⟩, ⟨0, hsum r o data, false, false⟩, ⟨0, ahead ++ hsum r o data, false, false⟩] := by kernel_rfl
  have RB' : RsI 31 5 wB wA.heap.size [] aB 3 cB (runH r o [⟨0, 0, 0, data⟩, ⟨1, 0, 0, []⟩, ⟨1, 0, 0, ahead⟩]) vs := RB
  rw [hrs] at RB'
  have D0 : SFnSumAppends w wA.heap.size aB 3 cB [⟨data.length, data, true, false⟩, ⟨0, hsum r o data, false, false⟩, ⟨0, ahead ++ hsum r o data, false, false⟩] vs pdata ndata cdata data pahead nahead cahead ahead wB := ⟨RB', H0data.out.keep0 FB, H0ahead.out.keep0 FB, FB⟩
  clear RB RB' hrs FB
  obtain ⟨g, hg, hc1, hc2, _⟩ := D0.rs.cells (by decide)
  subst hg
  unfold maxLen at hc2
  have D00 := D0
  replace D0 := D00.keep (Fr.refl _ _).drew
  clear D00
  obtain ⟨kk, hkk⟩ : ∃ kk, kk = k5 kind := ⟨_, rfl⟩
  have hkl : kk < 5 := by rw [hkk]; exact k5_lt kind
  have hki : kind % 5 = (kk : Int) := by rw [hkk]; exact k5_int kind
  have HOK : Hid (o = oOf kk) := by rw [hkk]; exact HRO.out.2
  clear hkk
  obtain ⟨T, hT⟩ : ∃ T : Int, T = Int.tmod kind 5 := ⟨_, rfl⟩
  have hT1 : -5 < T ∧ T < 5 := by rw [hT]; exact ⟨Int.lt_tmod_of_pos kind (by decide), Int.tmod_lt_of_pos kind (by decide)⟩
  have hT2 : (T + 5) % 5 = (kk : Int) := by rw [hT, tmod_add_emod' kind 5 (by decide), hki]
  have d1 : Int.tmod kind 5 = T := hT.symm
  have d2 : Int.tmod (T + 5) 5 = (kk : Int) := by rw [Int.tmod_eq_emod_of_nonneg (by omega)]; exact hT2
  have e1 : IntKind.i64.wrap T = T := IntWalk.i64_in _ (by omega)
  have e2 : IntKind.i64.wrap (T + 5) = T + 5 := IntWalk.i64_in _ (by omega)
  have e3 : IntKind.i64.wrap (kk : Int) = (kk : Int) := IntWalk.i64_in _ (by omega)
  have hk5 : (kk : Int) < 5 := by omega
  clear hT hT2 hki
  have HC1 : Hid (∀ u, SFnSumAppends w wA.heap.size (some ⟨g, 0, none⟩) 3 cB [⟨data.length, data, true, false⟩, ⟨0, hsum r o data, false, false⟩, ⟨0, ahead ++ hsum r o data, false, false⟩] vs pdata ndata cdata data pahead nahead cahead ahead u → u.cell? ⟨g, 5, none⟩ = some (.slice (vs.getD 1 (none, 0)).1 (o) (vs.getD 1 (none, 0)).2) ∧ Sl u (vs.getD 1 (none, 0)).1 (o) (vs.getD 1 (none, 0)).2 (hsum r o data)) := fun u hu => by
    have h1 : u.cell? ⟨g, 5, none⟩ = some (.slice (vs.getD 1 (none, 0)).1 (hsum r o data).length (vs.getD 1 (none, 0)).2) := RsI_cell hu.rs 1 1 (by decide) (by decide)
    have h2 : Sl u (vs.getD 1 (none, 0)).1 (hsum r o data).length (vs.getD 1 (none, 0)).2 (hsum r o data) := RsI_sl hu.rs 1 (by decide)
    rw [hsum_length] at h1 h2
    exact ⟨h1, h2⟩
  have HC2 : Hid (∀ u, SFnSumAppends w wA.heap.size (some ⟨g, 0, none⟩) 3 cB [⟨data.length, data, true, false⟩, ⟨0, hsum r o data, false, false⟩, ⟨0, ahead ++ hsum r o data, false, false⟩] vs pdata ndata cdata data pahead nahead cahead ahead u → u.cell? ⟨g, 9, none⟩ = some (.slice (vs.getD 2 (none, 0)).1 (nahead + o) (vs.getD 2 (none, 0)).2) ∧ Sl u (vs.getD 2 (none, 0)).1 (nahead + o) (vs.getD 2 (none, 0)).2 (ahead ++ hsum r o data)) := fun u hu => by
    have h1 : u.cell? ⟨g, 9, none⟩ = some (.slice (vs.getD 2 (none, 0)).1 (ahead ++ hsum r o data).length (vs.getD 2 (none, 0)).2) := RsI_cell hu.rs 2 1 (by decide) (by decide)
    have h2 : Sl u (vs.getD 2 (none, 0)).1 (ahead ++ hsum r o data).length (vs.getD 2 (none, 0)).2 (ahead ++ hsum r o data) := RsI_sl hu.rs 2 (by decide)
    rw [List.length_append, hsum_length, Lahead.out] at h1 h2
    exact ⟨h1, h2⟩
  have tz1 : ((o : Int) == (o : Int)) = true := by simp
  have tok1 : True := trivial
  have tok2 : True := trivial
  have tok3 : True := trivial
  go_wp2_with fail
  refine wp_region_held_drew (S := fun w' => w'.cell? ⟨g, 5, none⟩ = some (.slice (vs.getD 1 (none, 0)).1 (o) (vs.getD 1 (none, 0)).2) ∧ w'.cell? ⟨g, 9, none⟩ = some (.slice (vs.getD 2 (none, 0)).1 (nahead + o) (vs.getD 2 (none, 0)).2) ∧ SFnSumAppends w wA.heap.size (some ⟨g, 0, none⟩) 3 cB [⟨data.length, data, true, false⟩, ⟨0, hsum r o data, false, false⟩, ⟨0, ahead ++ hsum r o data, false, false⟩] vs pdata ndata cdata data pahead nahead cahead ahead w') (by kernel_rfl) ⟨(HC1.out _ D0).1, (HC2.out _ D0).1, D0⟩ (fun hHeld0 => ?_)
  refine wpAnyH_take (i := 0) (v := ?_) rfl (by kernel_rfl) (by kernel_rfl) (by kernel_rfl) (fun _ _ _ h => h) (Or.inl ⟨by rfl, ?_⟩) (by assumption) ?_
  rotate_left
  · intro w hSw
    try dsimp only at hSw
    go_simp
    all_goals with_reducible rfl
  try simp only [List.getElem_toArray, List.getElem_cons_zero, Act.put, List.setIfInBounds_toArray, List.set_cons_zero, List.set_cons_succ]
  refine wpAnyH_take (i := 1) (v := ?_) rfl (by kernel_rfl) (by kernel_rfl) (by kernel_rfl) (fun _ _ _ h => h) (Or.inl ⟨by rfl, ?_⟩) (by assumption) ?_
  rotate_left
  · intro w hSw
    try dsimp only at hSw
    go_simp
    all_goals with_reducible rfl
  try simp only [List.getElem_toArray, List.getElem_cons_succ, List.getElem_cons_zero, Act.put, List.setIfInBounds_toArray, List.set_cons_zero, List.set_cons_succ]
  refine wpAnyH_take (i := 2) (v := ?_) rfl (by kernel_rfl) (by kernel_rfl) (by kernel_rfl) (fun _ _ _ h => h) (Or.inl ⟨by rfl, ?_⟩) (by assumption) ?_
  rotate_left
  · intro w hSw
    try dsimp only at hSw
    go_simp
    all_goals with_reducible rfl
  try simp only [List.getElem_toArray, List.getElem_cons_succ, List.getElem_cons_zero, Act.put, List.setIfInBounds_toArray, List.set_cons_zero, List.set_cons_succ]
  refine wpAnyH_take (i := 3) (v := ?_) rfl (by kernel_rfl) (by kernel_rfl) (by kernel_rfl) (fun _ _ _ h => h) (Or.inl ⟨by rfl, ?_⟩) (by assumption) ?_
  rotate_left
  · intro w hSw
    try dsimp only at hSw
    go_simp
    all_goals with_reducible rfl
  try simp only [List.getElem_toArray, List.getElem_cons_succ, List.getElem_cons_zero, Act.put, List.setIfInBounds_toArray, List.set_cons_zero, List.set_cons_succ]
  refine wpAnyH_take (i := 4) (v := ?_) rfl (by kernel_rfl) (by kernel_rfl) (by kernel_rfl) (fun _ _ _ h => h) (Or.inl ⟨by rfl, ?_⟩) (by assumption) ?_
  rotate_left
  · intro w hSw
    try dsimp only at hSw
    go_simp
    all_goals with_reducible rfl
  try simp only [List.getElem_toArray, List.getElem_cons_succ, List.getElem_cons_zero, Act.put, List.setIfInBounds_toArray, List.set_cons_zero, List.set_cons_succ]
  refine wpAnyH_take (i := 5) (v := ?_) rfl (by kernel_rfl) (by kernel_rfl) (by kernel_rfl) (fun _ _ _ h => h) (Or.inl ⟨by rfl, ?_⟩) (by assumption) ?_
  rotate_left
  · intro w hSw
    try dsimp only at hSw
    go_simp
    all_goals with_reducible rfl
  try simp only [List.getElem_toArray, List.getElem_cons_succ, List.getElem_cons_zero, Act.put, List.setIfInBounds_toArray, List.set_cons_zero, List.set_cons_succ]
  refine wpAnyH_take (i := 6) (v := ?_) rfl (by kernel_rfl) (by kernel_rfl) (by kernel_rfl) (fun _ _ _ h => h) (Or.inl ⟨by rfl, ?_⟩) (by assumption) ?_
  rotate_left
  · intro w hSw
    try dsimp only at hSw
    go_simp
    all_goals with_reducible rfl
  try simp only [List.getElem_toArray, List.getElem_cons_succ, List.getElem_cons_zero, Act.put, List.setIfInBounds_toArray, List.set_cons_zero, List.set_cons_succ]
  refine wpAnyH_take (i := 7) (v := ?_) rfl (by kernel_rfl) (by kernel_rfl) (by kernel_rfl) (fun _ _ _ h => h) (Or.inl ⟨by rfl, ?_⟩) (by assumption) ?_
  rotate_left
  · intro w hSw
    try dsimp only at hSw
    go_simp
    all_goals with_reducible rfl
  try simp only [List.getElem_toArray, List.getElem_cons_succ, List.getElem_cons_zero, Act.put, List.setIfInBounds_toArray, List.set_cons_zero, List.set_cons_succ]
  refine wpAnyH_take (i := 8) (v := ?_) rfl (by kernel_rfl) (by kernel_rfl) (by kernel_rfl) (fun _ _ _ h => h) (Or.inl ⟨by rfl, ?_⟩) (by assumption) ?_
  rotate_left
  · intro w hSw
    try dsimp only at hSw
    go_simp
    all_goals with_reducible rfl
  try simp only [List.getElem_toArray, List.getElem_cons_succ, List.getElem_cons_zero, Act.put, List.setIfInBounds_toArray, List.set_cons_zero, List.set_cons_succ]
  refine wpAnyH_take (i := 10) (v := ?_) rfl (by kernel_rfl) (by kernel_rfl) (by kernel_rfl) (fun _ _ _ h => h) (Or.inl ⟨by rfl, ?_⟩) (by assumption) ?_
  rotate_left
  · intro w hSw
    try dsimp only at hSw
    go_simp
    all_goals with_reducible rfl
  try simp only [List.getElem_toArray, List.getElem_cons_succ, List.getElem_cons_zero, Act.put, List.setIfInBounds_toArray, List.set_cons_zero, List.set_cons_succ]
  refine wpAnyH_take (i := 11) (v := ?_) rfl (by kernel_rfl) (by kernel_rfl) (by kernel_rfl) (fun _ _ _ h => h) (Or.inl ⟨by rfl, ?_⟩) (by assumption) ?_
  rotate_left
  · intro w hSw
    try dsimp only at hSw
    go_simp
    all_goals with_reducible rfl
  try simp only [List.getElem_toArray, List.getElem_cons_succ, List.getElem_cons_zero, Act.put, List.setIfInBounds_toArray, List.set_cons_zero, List.set_cons_succ]
  refine wpAnyH_take (i := 12) (v := ?_) rfl (by kernel_rfl) (by kernel_rfl) (by kernel_rfl) (fun _ _ _ h => h) (Or.inl ⟨by rfl, ?_⟩) (by assumption) ?_
  rotate_left
  · intro w hSw
    try dsimp only at hSw
    go_simp
    all_goals with_reducible rfl
  try simp only [List.getElem_toArray, List.getElem_cons_succ, List.getElem_cons_zero, Act.put, List.setIfInBounds_toArray, List.set_cons_zero, List.set_cons_succ]
  refine wpAnyH_take (i := 13) (v := ?_) rfl (by kernel_rfl) (by kernel_rfl) (by kernel_rfl) (fun _ _ _ h => h) (Or.inl ⟨by rfl, ?_⟩) (by assumption) ?_
  rotate_left
  · intro w hSw
    try dsimp only at hSw
    go_simp
    all_goals with_reducible rfl
  try simp only [List.getElem_toArray, List.getElem_cons_succ, List.getElem_cons_zero, Act.put, List.setIfInBounds_toArray, List.set_cons_zero, List.set_cons_succ]
  refine wpAnyH_ready (rs := [9]) (by kernel_rfl) (by simp) ?_
  refine AllReadyH.cons rfl (fun K hK => ?_) AllReadyH.nil
  go_simp
  go_at_call 16
  refine (sizes_sz _).mono ?_
  rintro e u1 ⟨gz1, rfl, _, hz1, f1⟩
  have D1 := D0.keep f1
  have qz1 := hz1.cell kk hkl
  rw [← HOK.out] at qz1
  clear hz1
  refine hK.out _ _ ⟨(HC1.out _ D1).1, (HC2.out _ D1).1, D1⟩ (fun hHeld1 => ?_)
  refine wpAnyH_sub (S' := fun w' => w'.cell? ⟨gz1, kk, none⟩ = some (.int .i64 (o : Int)) ∧ w'.cell? ⟨g, 5, none⟩ = some (.slice (vs.getD 1 (none, 0)).1 (o) (vs.getD 1 (none, 0)).2) ∧ w'.cell? ⟨g, 9, none⟩ = some (.slice (vs.getD 2 (none, 0)).1 (nahead + o) (vs.getD 2 (none, 0)).2) ∧ SFnSumAppends w wA.heap.size (some ⟨g, 0, none⟩) 3 cB [⟨data.length, data, true, false⟩, ⟨0, hsum r o data, false, false⟩, ⟨0, ahead ++ hsum r o data, false, false⟩] vs pdata ndata cdata data pahead nahead cahead ahead w') (fun w' h => h.2) _ _ _ _ ?_
  have hHeldB1 : (fun w' => w'.cell? ⟨gz1, kk, none⟩ = some (.int .i64 (o : Int)) ∧ w'.cell? ⟨g, 5, none⟩ = some (.slice (vs.getD 1 (none, 0)).1 (o) (vs.getD 1 (none, 0)).2) ∧ w'.cell? ⟨g, 9, none⟩ = some (.slice (vs.getD 2 (none, 0)).1 (nahead + o) (vs.getD 2 (none, 0)).2) ∧ SFnSumAppends w wA.heap.size (some ⟨g, 0, none⟩) 3 cB [⟨data.length, data, true, false⟩, ⟨0, hsum r o data, false, false⟩, ⟨0, ahead ++ hsum r o data, false, false⟩] vs pdata ndata cdata data pahead nahead cahead ahead w') u1 := ⟨qz1, hHeld1⟩
  clear hK K
  try simp only [List.getElem_toArray, List.getElem_cons_succ, List.getElem_cons_zero, Act.put, List.setIfInBounds_toArray, List.set_cons_zero, List.set_cons_succ]
  refine wpAnyH_take (i := 14) (v := ?_) rfl (by kernel_rfl) (by kernel_rfl) (by kernel_rfl) (fun _ _ _ h => h) (Or.inl ⟨by rfl, ?_⟩) (by assumption) ?_
  rotate_left
  · intro w hSw
    try dsimp only at hSw
    go_simp
    all_goals with_reducible rfl
  try simp only [List.getElem_toArray, List.getElem_cons_succ, List.getElem_cons_zero, Act.put, List.setIfInBounds_toArray, List.set_cons_zero, List.set_cons_succ]
  refine wpAnyH_take (i := 15) (v := ?_) rfl (by kernel_rfl) (by kernel_rfl) (by kernel_rfl) (fun _ _ _ h => h) (Or.inl ⟨by rfl, ?_⟩) (by assumption) ?_
  rotate_left
  · intro w hSw
    try dsimp only at hSw
    go_simp
    all_goals with_reducible rfl
  try simp only [List.getElem_toArray, List.getElem_cons_succ, List.getElem_cons_zero, Act.put, List.setIfInBounds_toArray, List.set_cons_zero, List.set_cons_succ]
  refine wpAnyH_take (i := 16) (v := ?_) rfl (by kernel_rfl) (by kernel_rfl) (by kernel_rfl) (fun _ _ _ h => h) (Or.inl ⟨by rfl, ?_⟩) (by assumption) ?_
  rotate_left
  · intro w hSw
    try dsimp only at hSw
    go_simp
    all_goals with_reducible rfl
  try simp only [List.getElem_toArray, List.getElem_cons_succ, List.getElem_cons_zero, Act.put, List.setIfInBounds_toArray, List.set_cons_zero, List.set_cons_succ]
  refine wpAnyH_take (i := 17) (v := ?_) rfl (by kernel_rfl) (by kernel_rfl) (by kernel_rfl) (fun _ _ _ h => h) (Or.inl ⟨by rfl, ?_⟩) (by assumption) ?_
  rotate_left
  · intro w hSw
    try dsimp only at hSw
    go_simp
    all_goals with_reducible rfl
  try simp only [List.getElem_toArray, List.getElem_cons_succ, List.getElem_cons_zero, Act.put, List.setIfInBounds_toArray, List.set_cons_zero, List.set_cons_succ]
  refine wpAnyH_take (i := 18) (v := ?_) rfl (by kernel_rfl) (by kernel_rfl) (by kernel_rfl) (fun _ _ _ h => h) (Or.inl ⟨by rfl, ?_⟩) (by assumption) ?_
  rotate_left
  · intro w hSw
    try dsimp only at hSw
    go_simp
    all_goals with_reducible rfl
  try simp only [List.getElem_toArray, List.getElem_cons_succ, List.getElem_cons_zero, Act.put, List.setIfInBounds_toArray, List.set_cons_zero, List.set_cons_succ]
  refine wpAnyH_take (i := 19) (v := ?_) rfl (by kernel_rfl) (by kernel_rfl) (by kernel_rfl) (fun _ _ _ h => h) (Or.inl ⟨by rfl, ?_⟩) (by assumption) ?_
  rotate_left
  · intro w hSw
    try dsimp only at hSw
    go_simp
    all_goals with_reducible rfl
  try simp only [List.getElem_toArray, List.getElem_cons_succ, List.getElem_cons_zero, Act.put, List.setIfInBounds_toArray, List.set_cons_zero, List.set_cons_succ]
  refine wpAnyH_take (i := 20) (v := ?_) rfl (by kernel_rfl) (by kernel_rfl) (by kernel_rfl) (fun _ _ _ h => h) (Or.inl ⟨by rfl, ?_⟩) (by assumption) ?_
  rotate_left
  · intro w hSw
    try dsimp only at hSw
    go_simp
    all_goals with_reducible rfl
  try simp only [List.getElem_toArray, List.getElem_cons_succ, List.getElem_cons_zero, Act.put, List.setIfInBounds_toArray, List.set_cons_zero, List.set_cons_succ]
  refine wpAnyH_take (i := 21) (v := ?_) rfl (by kernel_rfl) (by kernel_rfl) (by kernel_rfl) (fun _ _ _ h => h) (Or.inl ⟨by rfl, ?_⟩) (by assumption) ?_
  rotate_left
  · intro w hSw
    try dsimp only at hSw
    go_simp
    all_goals with_reducible rfl
  try simp only [List.getElem_toArray, List.getElem_cons_succ, List.getElem_cons_zero, Act.put, List.setIfInBounds_toArray, List.set_cons_zero, List.set_cons_succ]
  refine wpAnyH_take (i := 22) (v := ?_) rfl (by kernel_rfl) (by kernel_rfl) (by kernel_rfl) (fun _ _ _ h => h) (Or.inl ⟨by rfl, ?_⟩) (by assumption) ?_
  rotate_left
  · intro w hSw
    try dsimp only at hSw
    go_simp
    all_goals with_reducible rfl
  try simp only [List.getElem_toArray, List.getElem_cons_succ, List.getElem_cons_zero, Act.put, List.setIfInBounds_toArray, List.set_cons_zero, List.set_cons_succ]
  refine wpAnyH_take (i := 23) (v := ?_) rfl (by kernel_rfl) (by kernel_rfl) (by kernel_rfl) (fun _ _ _ h => h) (Or.inl ⟨by rfl, ?_⟩) (by assumption) ?_
  rotate_left
  · intro w hSw
    try dsimp only at hSw
    go_simp
    all_goals with_reducible rfl
  try simp only [List.getElem_toArray, List.getElem_cons_succ, List.getElem_cons_zero, Act.put, List.setIfInBounds_toArray, List.set_cons_zero, List.set_cons_succ]
  refine wpAnyH_take (i := 24) (v := ?_) rfl (by kernel_rfl) (by kernel_rfl) (by kernel_rfl) (fun _ _ _ h => h) (Or.inl ⟨by rfl, ?_⟩) (by assumption) ?_
  rotate_left
  · intro w hSw
    try dsimp only at hSw
    go_simp
    all_goals with_reducible rfl
  try simp only [List.getElem_toArray, List.getElem_cons_succ, List.getElem_cons_zero, Act.put, List.setIfInBounds_toArray, List.set_cons_zero, List.set_cons_succ]
  refine wpAnyH_take (i := 25) (v := ?_) rfl (by kernel_rfl) (by kernel_rfl) (by kernel_rfl) (fun _ _ _ h => h) (Or.inl ⟨by rfl, ?_⟩) (by assumption) ?_
  rotate_left
  · intro w hSw
    try dsimp only at hSw
    go_simp
    all_goals with_reducible rfl
  try simp only [List.getElem_toArray, List.getElem_cons_succ, List.getElem_cons_zero, Act.put, List.setIfInBounds_toArray, List.set_cons_zero, List.set_cons_succ]
  refine wpAnyH_take (i := 26) (v := ?_) rfl (by kernel_rfl) (by kernel_rfl) (by kernel_rfl) (fun _ _ _ h => h) (Or.inl ⟨by rfl, ?_⟩) (by assumption) ?_
  rotate_left
  · intro w hSw
    try dsimp only at hSw
    go_simp
    all_goals with_reducible rfl
  try simp only [List.getElem_toArray, List.getElem_cons_succ, List.getElem_cons_zero, Act.put, List.setIfInBounds_toArray, List.set_cons_zero, List.set_cons_succ]
  refine wpAnyH_take (i := 27) (v := ?_) rfl (by kernel_rfl) (by kernel_rfl) (by kernel_rfl) (fun _ _ _ h => h) (Or.inl ⟨by rfl, ?_⟩) (by assumption) ?_
  rotate_left
  · intro w hSw
    try dsimp only at hSw
    go_simp
    all_goals with_reducible rfl
  try simp only [List.getElem_toArray, List.getElem_cons_succ, List.getElem_cons_zero, Act.put, List.setIfInBounds_toArray, List.set_cons_zero, List.set_cons_succ]
  refine wpAnyH_ready (rs := [28]) (by kernel_rfl) (by simp) ?_
  refine AllReadyH.cons rfl (fun K hK => ?_) AllReadyH.nil
  go_simp
  go_at_call 37
  refine (joined_any _ _ nahead o _ _ ahead (hsum r o data) _ D1.sahead (HC1.out _ D1).2 (by omega)).mono ?_
  rintro e u2 ⟨b2, d2, rfl, o2, f2⟩
  have D2 := D1.keep f2
  have Z2 := Lib.hid (o2.sl_at (n := nahead + o) (by rw [List.length_append, Lahead.out, hsum_length]))
  clear o2
  have qz2 := f2.cell qz1 (by simp)
  refine hK.out _ _ ⟨qz2, (HC1.out _ D2).1, (HC2.out _ D2).1, D2⟩ (fun hHeld2 => ?_)
  clear hK K
  try simp only [List.getElem_toArray, List.getElem_cons_succ, List.getElem_cons_zero, Act.put, List.setIfInBounds_toArray, List.set_cons_zero, List.set_cons_succ]
  refine wpAnyH_ready (rs := [29]) (by kernel_rfl) (by simp) ?_
  refine AllReadyH.cons rfl (fun K hK => ?_) AllReadyH.nil
  go_simp
  go_at_call 17
  refine (same_t _ _ (nahead + o) (nahead + o) _ _ (ahead ++ hsum r o data) (ahead ++ hsum r o data) _ (HC2.out _ D2).2 Z2.out rfl).mono ?_
  rintro e u3 ⟨rfl, f3⟩
  have D3 := D2.keep f3
  have qz3 := f3.cell qz2 (by simp)
  refine hK.out _ _ ⟨qz3, (HC1.out _ D3).1, (HC2.out _ D3).1, D3⟩ (fun hHeld3 => ?_)
  clear hK K
  try simp only [List.getElem_toArray, List.getElem_cons_succ, List.getElem_cons_zero, Act.put, List.setIfInBounds_toArray, List.set_cons_zero, List.set_cons_succ]
  refine wpAnyH_take (i := 30) (v := ?_) rfl (by kernel_rfl) (by kernel_rfl) (by kernel_rfl) (fun _ _ _ h => h) (Or.inl ⟨by rfl, ?_⟩) (by assumption) ?_
  rotate_left
  · intro w hSw
    try dsimp only at hSw
    go_simp
    all_goals with_reducible rfl
  try simp only [List.getElem_toArray, List.getElem_cons_succ, List.getElem_cons_zero, Act.put, List.setIfInBounds_toArray, List.set_cons_zero, List.set_cons_succ]
  refine wpAnyH_take (i := 31) (v := ?_) rfl (by kernel_rfl) (by kernel_rfl) (by kernel_rfl) (fun _ _ _ h => h) (Or.inl ⟨by rfl, ?_⟩) (by assumption) ?_
  rotate_left
  · intro w hSw
    try dsimp only at hSw
    go_simp
    all_goals with_reducible rfl
  try simp only [List.getElem_toArray, List.getElem_cons_succ, List.getElem_cons_zero, Act.put, List.setIfInBounds_toArray, List.set_cons_zero, List.set_cons_succ]
  refine wpAnyH_done (by kernel_rfl) ?_ _
  go_wp2_with fail
  go_ret
  exact ⟨by simp, D3.fr⟩
end Go.Proofs.Ytfgfhdkedmgfiaa
end

section
namespace Go.Proofs.Ytfgfhdkedmgfiaa.rFnSumAppends
open Go.ChangeShapes Go.WideShapes Go.ChangeAt Go.RowKit Go.Sha
set_option linter.unusedVariables false

theorem own : ownKnob Try.prog.godebug = none := by kernel_rfl
theorem laidOut : laidOutB Try.prog = true := by kernel_rfl

set_option maxRecDepth 100000 in
theorem lifted (os : Os) (started : os.Started) (H : Type) (enc : TypeId × Value → H) :
    ReturnsInHanded {} Try.checked os 9 .any (Rows.fnSumAppendsSpec.pre6 enc Try.prog Try.f9 Rows.fnSumAppendsRow.domain false) (Rows.fnSumAppendsSpec.post enc Try.prog Try.f9 false true false false) := by
  refine returnsInHanded_of_change_sized (C := Try.checked) own started (by kernel_rfl) Try.func9
    (ChangeSpec.witness6 (enc := enc) (C := Try.checked) false ⟨#[], #[.int .i64 0, .slice none 0 0, .slice none 0 0], []⟩ 8 (by kernel_rfl) (by kernel_rfl) (by kernel_rfl) (by kernel_rfl)) ?_
  intro W base args ds gs before hval0 hW hcnd hsz0 _
  have hsz : (DataW.weightsEach Try.prog (Try.f9.params.toList ++ Rows.fnSumAppendsSpec.plain.varTypes Try.prog) (ds ++ gs)).all (· ≤ reachBytes) = true := hsz0
  have hval : ∀ (j : Nat) t v, Try.f9.params[j]? = some t → args[j]? = some v → Value.okWide Try.prog W .any base t v := hval0
  have hW' := hW
  obtain ⟨p, q, hA0, hV, rfl, hfz, hnd⟩ := hW
  have hA : DataW.TrodAll enc Try.prog W 0 (fun _ => true) true Try.f9.params.toList args.toList ds p := hA0
  rw [Try.params9] at hA hval hsz
  obtain ⟨v0, vs0, d0, ds0, p0, q0, hargs, rfl, rfl, h0, r0⟩ := trodAll_cons hA
  obtain ⟨v1, vs1, d1, ds1, p1, q1, rfl, rfl, rfl, h1, r1⟩ := trodAll_cons r0
  obtain ⟨v2, vs2, d2, ds2, p2, q2, rfl, rfl, rfl, h2, r2⟩ := trodAll_cons r1
  obtain ⟨rfl, rfl, rfl⟩ := trodAll_nil r2
  obtain rfl : args = #[v0, v1, v2] := by cases args; simp_all
  obtain ⟨rfl, rfl⟩ := trodVars_none hV
  obtain ⟨a0, rfl, rfl, rfl, w0⟩ := open_int Try.underlying3 (hval 0 3 v0 rfl rfl) h0
  obtain ⟨a1, len1, cap1, rfl⟩ := okWide_slice Try.underlying22 (hval 1 22 v1 rfl rfl)
  have k1 := h1
  have lt1 : ∀ x ∈ p1, x.block < W.heap.size := by obtain ⟨m, hm⟩ := k1; exact DataW.trod_lt m _ _ _ hm
  obtain ⟨fuel1, hf1⟩ := h1
  obtain ⟨l1, s1, dl1⟩ := open_bytes Try.underlying22 Try.underlying5 (by kernel_rfl) hf1
  have b1 := (dl1.reach hsz (j := 1) rfl rfl Try.underlying22 (by kernel_rfl)).1
  obtain ⟨a2, len2, cap2, rfl⟩ := okWide_slice Try.underlying22 (hval 2 22 v2 rfl rfl)
  have k2 := h2
  have lt2 : ∀ x ∈ p2, x.block < W.heap.size := by obtain ⟨m, hm⟩ := k2; exact DataW.trod_lt m _ _ _ hm
  obtain ⟨fuel2, hf2⟩ := h2
  obtain ⟨l2, s2, dl2⟩ := open_bytes Try.underlying22 Try.underlying5 (by kernel_rfl) hf2
  have b2 := (dl2.reach hsz (j := 2) rfl rfl Try.underlying22 (by kernel_rfl)).1
  clear hA0 hval0
  refine (fnSumAppends_walk a0 a1 len1 cap1 l1 a2 len2 cap2 l2 W s1 (by omega) s2 (by omega)).mono fun e W' ⟨he, hfr⟩ => ?_
  have bel := hfr.below
  subst he
  exact ⟨_, rfl, _, _, _, [], _, [], hW', trodAll_mk1 (shut_bool Try.underlying4 _), (trodAll_cons_mk (shut_int Try.underlying3 w0) (trodAll_cons_mk (Below.trod laidOut (by kernel_rfl) (of_decide_eq_true (by kernel_rfl)) k1 bel lt1) (trodAll_cons_mk (Below.trod laidOut (by kernel_rfl) (of_decide_eq_true (by kernel_rfl)) k2 bel lt2) trodAll_mk0))), rfl, bel.frame _, fun h => by cases h⟩

theorem proved : Rows.FnSumAppendsSaid :=
  OpenClaim.holds_of_wide 9 Try.f9 rfl rfl rfl rfl rfl rfl rfl ⟨rfl, rfl, rfl, rfl, rfl⟩ rfl rfl rfl rfl rfl (by kernel_rfl) Try.func9 (by kernel_rfl)
    (of_decide_eq_true (by kernel_rfl)) (by unfold Func.isWrapper; first | (rw [if_pos (by decide +kernel)]; kernel_rfl) | (rw [if_neg (by decide +kernel)]; exact ⟨rfl, rfl⟩))
    (fun os started H enc _ => lifted os started H enc)
#print axioms proved
end Go.Proofs.Ytfgfhdkedmgfiaa.rFnSumAppends
namespace Go.Proofs.Ytfgfhdkedmgfiaa
theorem fnSumAppends_holds : Rows.FnSumAppendsSaid := rFnSumAppends.proved
end Go.Proofs.Ytfgfhdkedmgfiaa
end
