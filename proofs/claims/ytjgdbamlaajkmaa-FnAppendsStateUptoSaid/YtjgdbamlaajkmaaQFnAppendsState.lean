/- FnAppendsState: for every input of bulk at most 1048576 the law returns true, and each argument reads afterwards as it read before. The bound on the bulk is the given one. -/
import Derived.Test.YtjgdbamlaajkmaaGA
import Derived.Test.YtjgdbamlaajkmaaGB
import Derived.Test.YtjgdbamlaajkmaaGC
import Derived.Test.YtjgdbamlaajkmaaGD
import Derived.Test.YtjgdbamlaajkmaaGE
import Derived.Test.YtjgdbamlaajkmaaGF
import Derived.Test.YtjgdbamlaajkmaaGG
import Derived.Test.YtjgdbamlaajkmaaGH
import Derived.Test.YtjgdbamlaajkmaaGI
import Derived.Test.YtjgdbamlaajkmaaGK
import Derived.Test.YtjgdbamlaajkmaaGL
import Derived.Test.YtjgdbamlaajkmaaGJ
import Derived.Test.YtjgdbamlaajkmaaGM
import Derived.Below
import Derived.ChangeOld
import Derived.Deep.RegionLaw
import Derived.ShutString
section
namespace Go.Proofs.Ytjgdbamlaajkmaa
open Go.ChangeShapes Go.WideShapes Go.ChangeAt Go.RowKit Go.Sha
structure SFnAppendsState (w : World) (base : Nat) (ax : Option Addr) (nx cx : Nat) (rs : List Res) (vs : List (Option Addr × Nat)) (pa : Option Addr) (na ca : Nat) (a : Bs) (pb : Option Addr) (nb cb : Nat) (b : Bs) (pahead : Option Addr) (nahead cahead : Nat) (ahead : Bs) (w' : World) : Prop where
  rs : RsI 31 5 w' base [] ax nx cx rs vs
  sa : Sl w' pa na ca a
  sb : Sl w' pb nb cb b
  sahead : Sl w' pahead nahead cahead ahead
  fr : Fr [] w w'
theorem SFnAppendsState.keep {w : World} {base : Nat} {ax : Option Addr} {nx cx : Nat} {rs : List Res} {vs : List (Option Addr × Nat)} {pa : Option Addr} {na ca : Nat} {a : Bs} {pb : Option Addr} {nb cb : Nat} {b : Bs} {pahead : Option Addr} {nahead cahead : Nat} {ahead : Bs} {w1 w2 : World} (h : SFnAppendsState w base ax nx cx rs vs pa na ca a pb nb cb b pahead nahead cahead ahead w1) (f : Fr [] w1 w2) : SFnAppendsState w base ax nx cx rs vs pa na ca a pb nb cb b pahead nahead cahead ahead w2 :=
  ⟨h.rs.keep f (by simp), h.sa.keep0 f, h.sb.keep0 f, h.sahead.keep0 f, h.fr.trans f⟩
set_option maxRecDepth 100000 in
set_option maxHeartbeats 1000000 in
theorem fnAppendsState_walk (kind : Int) (pa : Option Addr) (na ca : Nat) (a : Bs) (pb : Option Addr) (nb cb : Nat) (b : Bs) (pahead : Option Addr) (nahead cahead : Nat) (ahead : Bs) (w : World) (ha : Sl w pa na ca a) (hna : na ≤ 1048576) (hb : Sl w pb nb cb b) (hnb : nb ≤ 1048576) (hahead : Sl w pahead nahead cahead ahead) (hnahead : nahead ≤ 1048576) :
    Calls Try.prog 12 #[.int .i64 kind, .slice pa na ca, .slice pb nb cb, .slice pahead nahead cahead] w (RetB true w) := by
  have H_a := Lib.hid ha.len
  have La := H_a
  have H0a := Lib.hid ha
  clear ha
  have H_b := Lib.hid hb.len
  have Lb := H_b
  have H0b := Lib.hid hb
  clear hb
  have H_ahead := Lib.hid hahead.len
  have Lahead := H_ahead
  have H0ahead := Lib.hid hahead
  clear hahead
  have F0 := Fr.refl [] w
  have HHD := Lib.hid (hashed_any kind)
  obtain ⟨r, hr⟩ : ∃ r, r = rOf (k5 kind) := ⟨_, rfl⟩
  obtain ⟨o, ho⟩ : ∃ o, o = oOf (k5 kind) := ⟨_, rfl⟩
  have hrt : Rt r o := by rw [hr, ho]; exact rt_of _ (k5_lt kind)
  have hole := hrt.ole
  have hopos := hrt.opos
  rw [← hr, ← ho] at HHD
  have HRO := Lib.hid (And.intro hr ho)
  clear hr ho hrt
  go_enter Try.func12, Try.ntmps12
  go_wp2_with fail
  refine (lwrite_any 0 _ na _ a _ (H0a.out.keep0 F0) (by omega)).mono ?_
  rintro e w1 ⟨a1, c1, rfl, O1, G⟩
  have F1 := F0.trans G
  have P1 := Lib.hid (O1.sl_at H_a.out)
  clear O1 G
  go_wp2_with fail
  refine (own_n _ nahead _ ahead _ (H0ahead.out.keep0 F1) (by omega)).mono ?_
  rintro e w2 ⟨a2, c2, rfl, O2, G⟩
  have F2 := F1.trans G
  replace P1 := Lib.hid (P1.out.keep0 G)
  have P2 := Lib.hid (O2.sl_at H_ahead.out)
  clear O2 G
  go_wp2_with (refine wpList_build2 rfl 26 0 _ (.int .i64 8) 3 _ (.slice a2 nahead c2) rfl rfl rfl #[.int .i64 8, .int .i64 0, .int .i64 0, .slice a2 nahead c2] rfl ?_)
  refine (lplain_any 7 0 _).mono ?_
  rintro e w3 ⟨rfl, G⟩
  have F3 := F2.trans G
  replace P1 := Lib.hid (P1.out.keep0 G)
  replace P2 := Lib.hid (P2.out.keep0 G)
  clear G
  go_wp2_with fail
  refine (lplain_any 6 0 _).mono ?_
  rintro e w4 ⟨rfl, G⟩
  have F4 := F3.trans G
  replace P1 := Lib.hid (P1.out.keep0 G)
  replace P2 := Lib.hid (P2.out.keep0 G)
  clear G
  go_wp2_with fail
  refine (lload_any 1 0 _).mono ?_
  rintro e w5 ⟨rfl, G⟩
  have F5 := F4.trans G
  replace P1 := Lib.hid (P1.out.keep0 G)
  replace P2 := Lib.hid (P2.out.keep0 G)
  clear G
  go_wp2_with fail
  refine (lwrite_any 1 _ nb _ b _ (H0b.out.keep0 F5) (by omega)).mono ?_
  rintro e w6 ⟨a6, c6, rfl, O6, G⟩
  have F6 := F5.trans G
  replace P1 := Lib.hid (P1.out.keep0 G)
  replace P2 := Lib.hid (P2.out.keep0 G)
  have P6 := Lib.hid (O6.sl_at H_b.out)
  clear O6 G
  go_wp2_with fail
  refine (lask_any 1 _ 0 _ [] _ (Sl.nil0 _) (by omega)).mono ?_
  rintro e w7 ⟨a7, c7, rfl, O7, G⟩
  have F7 := F6.trans G
  replace P1 := Lib.hid (P1.out.keep0 G)
  replace P2 := Lib.hid (P2.out.keep0 G)
  replace P6 := Lib.hid (P6.out.keep0 G)
  have P7 := Lib.hid (O7.sl_at rfl)
  clear O7 G
  go_wp2_with fail
  refine (lload_any 0 1 _).mono ?_
  rintro e w8 ⟨rfl, G⟩
  have F8 := F7.trans G
  replace P1 := Lib.hid (P1.out.keep0 G)
  replace P2 := Lib.hid (P2.out.keep0 G)
  replace P6 := Lib.hid (P6.out.keep0 G)
  replace P7 := Lib.hid (P7.out.keep0 G)
  clear G
  go_wp2_with fail
  refine (lwrite_any 0 _ nb _ b _ (H0b.out.keep0 F8) (by omega)).mono ?_
  rintro e w9 ⟨a9, c9, rfl, O9, G⟩
  have F9 := F8.trans G
  replace P1 := Lib.hid (P1.out.keep0 G)
  replace P2 := Lib.hid (P2.out.keep0 G)
  replace P6 := Lib.hid (P6.out.keep0 G)
  replace P7 := Lib.hid (P7.out.keep0 G)
  have P9 := Lib.hid (O9.sl_at H_b.out)
  clear O9 G
  go_wp2_with fail
  refine (lask_any 0 _ 0 _ [] _ (Sl.nil0 _) (by omega)).mono ?_
  rintro e w10 ⟨a10, c10, rfl, O10, G⟩
  have F10 := F9.trans G
  replace P1 := Lib.hid (P1.out.keep0 G)
  replace P2 := Lib.hid (P2.out.keep0 G)
  replace P6 := Lib.hid (P6.out.keep0 G)
  replace P7 := Lib.hid (P7.out.keep0 G)
  replace P9 := Lib.hid (P9.out.keep0 G)
  have P10 := Lib.hid (O10.sl_at rfl)
  clear O10 G
  go_wp2_with fail
  have GA : Fr [] w10 (w10.alloc (.cells #[.int .i64 0, .int .i64 0, .int .i64 0, .slice a1 na c1, .int .i64 8, .int .i64 0, .int .i64 0, .slice a2 nahead c2, .int .i64 7, .int .i64 0, .int .i64 0, .slice none 0 0, .int .i64 6, .int .i64 0, .int .i64 0, .slice none 0 0, .int .i64 9, .int .i64 1, .int .i64 0, .slice none 0 0, .int .i64 0, .int .i64 1, .int .i64 0, .slice a6 nb c6, .int .i64 1, .int .i64 1, .int .i64 0, .slice a7 0 c7, .int .i64 9, .int .i64 0, .int .i64 1, .slice none 0 0, .int .i64 0, .int .i64 0, .int .i64 0, .slice a9 nb c9, .int .i64 1, .int .i64 0, .int .i64 0, .slice a10 0 c10] 26)) := (Fr.refl _ _).alloc _
  have AX : Hid (ActsAt (w10.alloc (.cells #[.int .i64 0, .int .i64 0, .int .i64 0, .slice a1 na c1, .int .i64 8, .int .i64 0, .int .i64 0, .slice a2 nahead c2, .int .i64 7, .int .i64 0, .int .i64 0, .slice none 0 0, .int .i64 6, .int .i64 0, .int .i64 0, .slice none 0 0, .int .i64 9, .int .i64 1, .int .i64 0, .slice none 0 0, .int .i64 0, .int .i64 1, .int .i64 0, .slice a6 nb c6, .int .i64 1, .int .i64 1, .int .i64 0, .slice a7 0 c7, .int .i64 9, .int .i64 0, .int .i64 1, .slice none 0 0, .int .i64 0, .int .i64 0, .int .i64 0, .slice a9 nb c9, .int .i64 1, .int .i64 0, .int .i64 0, .slice a10 0 c10] 26)) (some ⟨w10.heap.size, 0, none⟩) 10 10 (([(⟨0, 0, 0, a⟩, (a1, na, c1)), (⟨8, 0, 0, ahead⟩, (a2, nahead, c2)), (⟨7, 0, 0, []⟩, (none, 0, 0)), (⟨6, 0, 0, []⟩, (none, 0, 0)), (⟨9, 1, 0, []⟩, (none, 0, 0)), (⟨0, 1, 0, b⟩, (a6, nb, c6)), (⟨1, 1, 0, []⟩, (a7, 0, c7)), (⟨9, 0, 1, []⟩, (none, 0, 0)), (⟨0, 0, 0, b⟩, (a9, nb, c9)), (⟨1, 0, 0, []⟩, (a10, 0, c10))] : List (Actn × (Option Addr × Nat × Nat))).map (·.1))) := ActsAt.of_list [(⟨0, 0, 0, a⟩, (a1, na, c1)), (⟨8, 0, 0, ahead⟩, (a2, nahead, c2)), (⟨7, 0, 0, []⟩, (none, 0, 0)), (⟨6, 0, 0, []⟩, (none, 0, 0)), (⟨9, 1, 0, []⟩, (none, 0, 0)), (⟨0, 1, 0, b⟩, (a6, nb, c6)), (⟨1, 1, 0, []⟩, (a7, 0, c7)), (⟨9, 0, 1, []⟩, (none, 0, 0)), (⟨0, 0, 0, b⟩, (a9, nb, c9)), (⟨1, 0, 0, []⟩, (a10, 0, c10))] (Go.heap_alloc_new w10 _) (fun p hp => by
    simp only [List.mem_cons, List.not_mem_nil, or_false] at hp
    rcases hp with rfl | rfl | rfl | rfl | rfl | rfl | rfl | rfl | rfl | rfl
    · exact ⟨P1.out.keep0 GA, by simp only; omega⟩
    · exact ⟨P2.out.keep0 GA, by simp only; omega⟩
    · exact ⟨Sl.nil0 _, by simp⟩
    · exact ⟨Sl.nil0 _, by simp⟩
    · exact ⟨Sl.nil0 _, by simp⟩
    · exact ⟨P6.out.keep0 GA, by simp only; omega⟩
    · exact ⟨P7.out.keep0 GA, by simp only; omega⟩
    · exact ⟨Sl.nil0 _, by simp⟩
    · exact ⟨P9.out.keep0 GA, by simp only; omega⟩
    · exact ⟨P10.out.keep0 GA, by simp only; omega⟩
    ) (by simp [maxLen])
  have FA := F10.trans GA
  generalize (w10.alloc (.cells #[.int .i64 0, .int .i64 0, .int .i64 0, .slice a1 na c1, .int .i64 8, .int .i64 0, .int .i64 0, .slice a2 nahead c2, .int .i64 7, .int .i64 0, .int .i64 0, .slice none 0 0, .int .i64 6, .int .i64 0, .int .i64 0, .slice none 0 0, .int .i64 9, .int .i64 1, .int .i64 0, .slice none 0 0, .int .i64 0, .int .i64 1, .int .i64 0, .slice a6 nb c6, .int .i64 1, .int .i64 1, .int .i64 0, .slice a7 0 c7, .int .i64 9, .int .i64 0, .int .i64 1, .slice none 0 0, .int .i64 0, .int .i64 0, .int .i64 0, .slice a9 nb c9, .int .i64 1, .int .i64 0, .int .i64 0, .slice a10 0 c10] 26)) = wA at AX FA ⊢
  clear GA P1 P2 P6 P7 P9 P10
  refine (runHashes_any wA kind _ 10 10 _ AX.out (by omega)).mono ?_
  rintro e wB ⟨aB, cB, vs, rfl, RB, GB⟩
  have FB := FA.trans GB
  clear AX FA GB
  rw [← HRO.out.1, ← HRO.out.2] at RB
  have hrs : runH r o [⟨0, 0, 0, a⟩, ⟨8, 0, 0, ahead⟩, ⟨7, 0, 0, []⟩, ⟨6, 0, 0, []⟩, ⟨9, 1, 0, []⟩, ⟨0, 1, 0, b⟩, ⟨1, 1, 0, []⟩, ⟨9, 0, 1, []⟩, ⟨0, 0, 0, b⟩, ⟨1, 0, 0, []⟩] = [⟨a.length, a, true, false⟩, ⟨0, ahead, true, false⟩, ⟨0, [], true, false⟩, ⟨0, [], false, false⟩, ⟨0, [], true, false⟩, ⟨b.length, b, true, false⟩, ⟨0, hsum r o (a ++ b), false, false⟩, ⟨0, [], true, false⟩, ⟨b.length, b, true, false⟩, ⟨0, hsum r o (a ++ b), false, false⟩] := by kernel_rfl
  have RB' : RsI 31 5 wB wA.heap.size [] aB 10 cB (runH r o [⟨0, 0, 0, a⟩, ⟨8, 0, 0, ahead⟩, ⟨7, 0, 0, []⟩, ⟨6, 0, 0, []⟩, ⟨9, 1, 0, []⟩, ⟨0, 1, 0, b⟩, ⟨1, 1, 0, []⟩, ⟨9, 0, 1, []⟩, ⟨0, 0, 0, b⟩, ⟨1, 0, 0, []⟩]) vs := RB
  rw [hrs] at RB'
  have D0 : SFnAppendsState w wA.heap.size aB 10 cB [⟨a.length, a, true, false⟩, ⟨0, ahead, true, false⟩, ⟨0, [], true, false⟩, ⟨0, [], false, false⟩, ⟨0, [], true, false⟩, ⟨b.length, b, true, false⟩, ⟨0, hsum r o (a ++ b), false, false⟩, ⟨0, [], true, false⟩, ⟨b.length, b, true, false⟩, ⟨0, hsum r o (a ++ b), false, false⟩] vs pa na ca a pb nb cb b pahead nahead cahead ahead wB := ⟨RB', H0a.out.keep0 FB, H0b.out.keep0 FB, H0ahead.out.keep0 FB, FB⟩
  clear RB RB' hrs FB
  obtain ⟨g, hg, hc1, hc2, _⟩ := D0.rs.cells (by decide)
  subst hg
  unfold maxLen at hc2
  have q0 : wB.cell? ⟨g, 6, none⟩ = some (.bool true) := RsI_cell D0.rs 1 2 (by decide) (by decide)
  have q1 : wB.cell? ⟨g, 18, none⟩ = some (.bool true) := RsI_cell D0.rs 4 2 (by decide) (by decide)
  have q2 : wB.cell? ⟨g, 30, none⟩ = some (.bool true) := RsI_cell D0.rs 7 2 (by decide) (by decide)
  go_wp2_with fail
  clear q0 q1 q2
  refine (joined_any _ _ na nb _ _ a b _ D0.sa D0.sb (by omega)).mono ?_
  rintro e u1 ⟨b1, d1, rfl, o1, f1⟩
  have D1 := D0.keep f1
  have Z1 := Lib.hid (o1.sl_at (by rw [List.length_append, La.out, Lb.out]))
  clear o1
  have q0 : u1.cell? ⟨g, 6, none⟩ = some (.bool true) := RsI_cell D1.rs 1 2 (by decide) (by decide)
  have q1 : u1.cell? ⟨g, 18, none⟩ = some (.bool true) := RsI_cell D1.rs 4 2 (by decide) (by decide)
  have q2 : u1.cell? ⟨g, 30, none⟩ = some (.bool true) := RsI_cell D1.rs 7 2 (by decide) (by decide)
  go_wp2_with fail
  clear q0 q1 q2
  refine (HHD.out _ (na + nb) _ (a ++ b) _ Z1.out (by omega)).mono ?_
  rintro e u2 ⟨b2, d2, rfl, o2, f2⟩
  have D2 := D1.keep f2
  have Z2 := Lib.hid o2.sl
  clear o2
  have q0 : u2.cell? ⟨g, 6, none⟩ = some (.bool true) := RsI_cell D2.rs 1 2 (by decide) (by decide)
  have q1 : u2.cell? ⟨g, 18, none⟩ = some (.bool true) := RsI_cell D2.rs 4 2 (by decide) (by decide)
  have q2 : u2.cell? ⟨g, 30, none⟩ = some (.bool true) := RsI_cell D2.rs 7 2 (by decide) (by decide)
  go_wp2_with fail
  clear q0 q1 q2
  refine (tells_t _ _ _ _ _ _ _ vs 1 _ _ _ (ahead) D2.rs (by decide) D2.sahead rfl).mono ?_
  rintro e u3 ⟨rfl, f3⟩
  have D3 := D2.keep f3
  replace Z2 := Lib.hid (Z2.out.keep0 f3)
  have q0 : u3.cell? ⟨g, 6, none⟩ = some (.bool true) := RsI_cell D3.rs 1 2 (by decide) (by decide)
  have q1 : u3.cell? ⟨g, 18, none⟩ = some (.bool true) := RsI_cell D3.rs 4 2 (by decide) (by decide)
  have q2 : u3.cell? ⟨g, 30, none⟩ = some (.bool true) := RsI_cell D3.rs 7 2 (by decide) (by decide)
  go_wp2_with fail
  clear q0 q1 q2
  refine (tells_t _ _ _ _ _ _ _ vs 6 _ _ _ (hsum r o (a ++ b)) D3.rs (by decide) Z2.out rfl).mono ?_
  rintro e u4 ⟨rfl, f4⟩
  have D4 := D3.keep f4
  replace Z2 := Lib.hid (Z2.out.keep0 f4)
  have q0 : u4.cell? ⟨g, 6, none⟩ = some (.bool true) := RsI_cell D4.rs 1 2 (by decide) (by decide)
  have q1 : u4.cell? ⟨g, 18, none⟩ = some (.bool true) := RsI_cell D4.rs 4 2 (by decide) (by decide)
  have q2 : u4.cell? ⟨g, 30, none⟩ = some (.bool true) := RsI_cell D4.rs 7 2 (by decide) (by decide)
  go_wp2_with fail
  clear q0 q1 q2
  refine (tells_t _ _ _ _ _ _ _ vs 9 _ _ _ (hsum r o (a ++ b)) D4.rs (by decide) Z2.out rfl).mono ?_
  rintro e u5 ⟨rfl, f5⟩
  have D5 := D4.keep f5
  replace Z2 := Lib.hid (Z2.out.keep0 f5)
  have q0 : u5.cell? ⟨g, 6, none⟩ = some (.bool true) := RsI_cell D5.rs 1 2 (by decide) (by decide)
  have q1 : u5.cell? ⟨g, 18, none⟩ = some (.bool true) := RsI_cell D5.rs 4 2 (by decide) (by decide)
  have q2 : u5.cell? ⟨g, 30, none⟩ = some (.bool true) := RsI_cell D5.rs 7 2 (by decide) (by decide)
  go_wp2_with fail
  clear q0 q1 q2
  go_ret
  exact ⟨rfl, D5.fr⟩
end Go.Proofs.Ytjgdbamlaajkmaa
end

section
namespace Go.Proofs.Ytjgdbamlaajkmaa.rFnAppendsState
open Go.ChangeShapes Go.WideShapes Go.ChangeAt Go.RowKit Go.Sha
set_option linter.unusedVariables false

theorem own : ownKnob Try.prog.godebug = none := by kernel_rfl
theorem laidOut : laidOutB Try.prog = true := by kernel_rfl

set_option maxRecDepth 100000 in
theorem lifted (os : Os) (started : os.Started) (H : Type) (enc : TypeId × Value → H) (F : Stop.Interp) :
    ReturnsInHanded {} Try.checked os 12 .any ((Rows.OpenSpec.upto Rows.fnAppendsStateSpec).pre6 enc Try.prog Try.f12 Rows.fnAppendsStateUptoRow.domain false) (((Rows.OpenSpec.upto Rows.fnAppendsStateSpec).at F).post enc Try.prog Try.f12 false true false false) := by
  refine returnsInHanded_of_cond (C := Try.checked) (s := Rows.OpenSpec.upto Rows.fnAppendsStateSpec) (k := Rows.uptoSmall) rfl own started (by kernel_rfl) Try.func12
    (OpenSpec.witness (enc := enc) (C := Try.checked) (s := Rows.OpenSpec.upto Rows.fnAppendsStateSpec) (k := Rows.uptoSmall) rfl false ⟨#[], #[.int .i64 0, .slice none 0 0, .slice none 0 0, .slice none 0 0], []⟩ 8 (by kernel_rfl) (by kernel_rfl) (by kernel_rfl)
      (x := ([.lit (.int .i64 0), .nil, .nil, .nil], [], [])) (by kernel_rfl) rfl (by kernel_rfl)) ?_
  intro W base args ds gs before hval0 hW hcnd hk _
  have hval : ∀ (j : Nat) t v, Try.f12.params[j]? = some t → args[j]? = some v → Value.okWide Try.prog W .any base t v := hval0
  have hW' := hW
  obtain ⟨p, q, hA0, hV, rfl, hfz, hnd⟩ := hW
  have hA : DataW.TrodAll enc Try.prog W 0 (fun _ => true) true Try.f12.params.toList args.toList ds p := hA0
  rw [Try.params12] at hA hval
  obtain ⟨v0, vs0, d0, ds0, p0, q0, hargs, rfl, rfl, h0, r0⟩ := trodAll_cons hA
  obtain ⟨v1, vs1, d1, ds1, p1, q1, rfl, rfl, rfl, h1, r1⟩ := trodAll_cons r0
  obtain ⟨v2, vs2, d2, ds2, p2, q2, rfl, rfl, rfl, h2, r2⟩ := trodAll_cons r1
  obtain ⟨v3, vs3, d3, ds3, p3, q3, rfl, rfl, rfl, h3, r3⟩ := trodAll_cons r2
  obtain ⟨rfl, rfl, rfl⟩ := trodAll_nil r3
  obtain rfl : args = #[v0, v1, v2, v3] := by cases args; simp_all
  obtain ⟨rfl, rfl⟩ := trodVars_none hV
  simp only [List.append_nil] at hk
  have hbk : Rows.uptoBulkAll [d0, d1, d2, d3] ≤ 1048576 := of_decide_eq_true hk
  simp only [Rows.uptoBulkAll] at hbk
  obtain ⟨a0, rfl, rfl, rfl, w0⟩ := open_int Try.underlying3 (hval 0 3 v0 rfl rfl) h0
  obtain ⟨a1, len1, cap1, rfl⟩ := okWide_slice Try.underlying22 (hval 1 22 v1 rfl rfl)
  have k1 := h1
  have lt1 : ∀ x ∈ p1, x.block < W.heap.size := by obtain ⟨m, hm⟩ := k1; exact DataW.trod_lt m _ _ _ hm
  obtain ⟨fuel1, hf1⟩ := h1
  obtain ⟨l1, s1, dl1⟩ := open_bytes Try.underlying22 Try.underlying5 (by kernel_rfl) hf1
  have b1 := DLen_bulk dl1
  obtain ⟨a2, len2, cap2, rfl⟩ := okWide_slice Try.underlying22 (hval 2 22 v2 rfl rfl)
  have k2 := h2
  have lt2 : ∀ x ∈ p2, x.block < W.heap.size := by obtain ⟨m, hm⟩ := k2; exact DataW.trod_lt m _ _ _ hm
  obtain ⟨fuel2, hf2⟩ := h2
  obtain ⟨l2, s2, dl2⟩ := open_bytes Try.underlying22 Try.underlying5 (by kernel_rfl) hf2
  have b2 := DLen_bulk dl2
  obtain ⟨a3, len3, cap3, rfl⟩ := okWide_slice Try.underlying22 (hval 3 22 v3 rfl rfl)
  have k3 := h3
  have lt3 : ∀ x ∈ p3, x.block < W.heap.size := by obtain ⟨m, hm⟩ := k3; exact DataW.trod_lt m _ _ _ hm
  obtain ⟨fuel3, hf3⟩ := h3
  obtain ⟨l3, s3, dl3⟩ := open_bytes Try.underlying22 Try.underlying5 (by kernel_rfl) hf3
  have b3 := DLen_bulk dl3
  simp only [Rows.uptoBulk] at hbk
  clear hA0 hval0
  refine (fnAppendsState_walk a0 a1 len1 cap1 l1 a2 len2 cap2 l2 a3 len3 cap3 l3 W s1 (by omega) s2 (by omega) s3 (by omega)).mono fun e W' ⟨he, hfr⟩ => ?_
  have bel := hfr.below
  subst he
  exact ⟨_, rfl, _, _, _, [], _, [], hW', trodAll_mk1 (shut_bool Try.underlying4 _), (trodAll_cons_mk (shut_int Try.underlying3 w0) (trodAll_cons_mk (Below.trod laidOut (by kernel_rfl) (of_decide_eq_true (by kernel_rfl)) k1 bel lt1) (trodAll_cons_mk (Below.trod laidOut (by kernel_rfl) (of_decide_eq_true (by kernel_rfl)) k2 bel lt2) (trodAll_cons_mk (Below.trod laidOut (by kernel_rfl) (of_decide_eq_true (by kernel_rfl)) k3 bel lt3) trodAll_mk0)))), rfl, bel.frame _, fun h => by cases h⟩

theorem proved : Rows.FnAppendsStateUptoSaid :=
  OpenClaim.holds_of_cond 12 Try.f12 rfl rfl rfl rfl rfl rfl rfl ⟨rfl, rfl, rfl, rfl, rfl⟩ rfl rfl rfl rfl rfl (by kernel_rfl) Try.func12 (by kernel_rfl)
    (of_decide_eq_true (by kernel_rfl)) (by unfold Func.isWrapper; first | (rw [if_pos (by decide +kernel)]; kernel_rfl) | (rw [if_neg (by decide +kernel)]; exact ⟨rfl, rfl⟩))
    (fun os started H enc _ F => lifted os started H enc F)
#print axioms proved
end Go.Proofs.Ytjgdbamlaajkmaa.rFnAppendsState
namespace Go.Proofs.Ytjgdbamlaajkmaa
theorem fnAppendsState_holds : Rows.FnAppendsStateUptoSaid := rFnAppendsState.proved
end Go.Proofs.Ytjgdbamlaajkmaa
end
