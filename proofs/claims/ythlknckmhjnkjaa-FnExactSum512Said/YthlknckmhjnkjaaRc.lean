/- rc of the reference: a bit of the linear feedback shift register. Numbers of moderate size. -/
import Derived.Test.YthlknckmhjnkjaaChi
import Derived.Test.YthlknckmhjnkjaaOwn
namespace Go.Sha
open Go.RowKit
/-- one step of the register -/
def rcSet (r : Bits) (k : Nat) : Bits := r.set k (r.getD k false != r.getD 8 false)
def rcStep (r : Bits) : Bits := (rcSet (rcSet (rcSet (rcSet (false :: r) 0) 4) 5) 6).take 8
def rcR : Nat → Bits
  | 0 => [true, false, false, false, false, false, false, false]
  | k + 1 => rcStep (rcR k)
theorem rcSet_length (r : Bits) (k : Nat) : (rcSet r k).length = r.length := by simp [rcSet]
theorem rcR_length : ∀ k, (rcR k).length = 8
  | 0 => rfl
  | k + 1 => by simp [rcR, rcStep, rcSet_length, rcR_length k]
/-- the bit with a number -/
def rcB (t : Nat) : Bool := (rcR (t % 255)).getD 0 false
/-- a new block of one bool, as a slice of one's own -/
theorem OwB.one (w : World) (u : Bool) (e base : Nat) (hb : base ≤ w.heap.size) : OwB (w.alloc (.cells #[.bool u] e)) base e (some ⟨w.heap.size, 0, none⟩) 1 [u] :=
  ⟨rfl, .inr ⟨w.heap.size, 1, #[.bool u], rfl, hb, Go.heap_alloc_new w _, by simp, by simp [maxLen], by simp, by simp⟩⟩
theorem OwB.at0 {w : World} {base e c : Nat} {a : Option Addr} {l : Bits} (h : OwB w base e a c l) (hl : 0 < l.length) : ∃ g, a = Option.some ⟨g, 0, none⟩ ∧ base ≤ g ∧ l.length ≤ c ∧ c ≤ maxLen := by
  obtain ⟨g, cur, h1, h2, _, h3, h4, _⟩ := h.open hl
  exact ⟨g, h1, h2, h3, h4⟩
theorem OwB.drew {w : World} {base e c : Nat} {a : Option Addr} {l : Bits} (h : OwB w base e a c l) : OwB w.drew base e a c l := h
theorem SlB.of_cells {w : World} {g e : Nat} {l : Bits} (h : w.heap[g]? = some (.cells (l.map Value.bool).toArray e (0, 0))) (hm : l.length ≤ maxLen) : SlB w (some ⟨g, 0, none⟩) l.length l.length l := by
  refine ⟨rfl, Nat.le_refl _, hm, .inr ⟨g, 0, rfl, fun i hi => ?_⟩⟩
  simp [World.cell?, h, hi]
end Go.Sha
namespace Go.Proofs.Ythlknckmhjnkjaa
open Go.ChangeShapes Go.WideShapes Go.ChangeAt Go.RowKit Go.Sha
theorem info4 : (Try.prog.info? 4).map (fun i => (i.zero, i.size, i.bytes)) = some (some (.bool false), 1, 1) := by kernel_rfl

/-- k steps done -/
def RcRel (w : World) (M : Nat) (r i : Value) (wr : World) : Prop := ∃ k a c : Nat, k ≤ M ∧ i = .int .i64 k ∧ r = .slice (some ⟨a, 0, none⟩) 8 c ∧ SlB wr (some ⟨a, 0, none⟩) 8 c (rcR k) ∧ Fr [] w wr
theorem RcRel.mk {w : World} {M : Nat} {r i : Value} {wr : World} (k a c : Nat) (hk : k ≤ M) (hi : i = .int .i64 k) (hr : r = .slice (some ⟨a, 0, none⟩) 8 c) (hs : SlB wr (some ⟨a, 0, none⟩) 8 c (rcR k)) (hf : Fr [] w wr) : RcRel w M r i wr := ⟨k, a, c, hk, hi, hr, hs, hf⟩

attribute [local irreducible] wpStill
set_option maxRecDepth 100000 in
set_option maxHeartbeats 1000000 in
theorem rc_any (t : Nat) (w : World) (ht : t ≤ 1000000) : Calls Try.prog 75 #[.int .i64 (t : Int)] w (RetB (rcB t) w) := by
  obtain ⟨i0, hi, hz0, hz1, hz2⟩ := info_parts info4
  obtain ⟨M, hM⟩ : ∃ M : Nat, M = t % 255 := ⟨_, rfl⟩
  have m1 : Hid ((t : Int) % 255 = (M : Int)) := by show _ = _; omega
  have hMl : M < 255 := by omega
  have HM := Lib.hid hM
  clear hM
  go_enter Try.func75, Try.ntmps75
  go_wp2_with fail
  have h0 : SlB (w.alloc (.cells #[.bool true, .bool false, .bool false, .bool false, .bool false, .bool false, .bool false, .bool false] 4)) (some ⟨w.heap.size, 0, none⟩) 8 8 (rcR 0) :=
    SlB.of_cells (l := rcR 0) (Go.heap_alloc_new w _) (by decide)
  have f0 : Fr [] w (w.alloc (.cells #[.bool true, .bool false, .bool false, .bool false, .bool false, .bool false, .bool false, .bool false] 4)) := (Fr.refl _ _).alloc _
  have H0 := Lib.hid h0
  clear h0
  generalize w.alloc (.cells #[.bool true, .bool false, .bool false, .bool false, .bool false, .bool false, .bool false, .bool false] 4) = w0 at H0 f0 ⊢
  go_loopw [3, 4] (fun r i wr => RcRel w M r i wr) (fun _ i _ => M - (intOf i).toNat)
  case atStart => exact RcRel.mk 0 _ _ (by omega) rfl rfl H0.out f0
  case round =>
    clear H0 f0 w0
    obtain ⟨k, ga, ca, hk, rfl, rfl, hS, hf⟩ := hrel
    have HS := Lib.hid hS
    have hlen := hS.cap
    have hmax := hS.max
    unfold maxLen at hmax
    clear hS
    go_wp2_with fail
    refine (mod_nat _ 255 M wr (by decide) (by decide) m1.out).mono ?_
    rintro e w' ⟨rfl, rfl⟩
    by_cases hlt : k < M
    · have f1 : Fr [] w' (w'.alloc (.cells #[.bool false] 4)) := (Fr.refl _ _).alloc _
      have S1 := Lib.hid (HS.out.keep0 f1)
      have F1 := hf.trans f1
      have O1 := Lib.hid (OwB.one w' false 4 w.heap.size hf.size)
      have hsz : w.heap.size ≤ (w'.alloc (.cells #[.bool false] 4)).heap.size := by simp; have := hf.size; omega
      have hsz2 := hf.size
      have hrl := Lib.hid (rcR_length k)
      go_wp2_with (at_builtin; refine wpList_append_src _ rfl _ _ 42 42 rfl w.heap.size 4 i0 (.bool false) 1 1 Try.underlying42 hi hz0 hz1 hz2 rfl (some ⟨w'.heap.size, 0, none⟩) 1 1 [.bool false] rfl O1.out _ 8 ((rcR k).map Value.bool) rfl (S1.out.src Try.underlying42) ?c1 ?c2 ?c3 ?_)
      case c1 => unfold maxLen; omega
      case c2 => omega
      case c3 => exact hsz
      intro a2 c2 w2 ho hg
      have F2 : Fr [] w w2 := F1.grown hg (by intro q hq; simp [Value.ownBlock] at hq; omega)
      have O2 : OwB w2 w.heap.size 4 a2 c2 (false :: rcR k) := OwB.of ho (by simp [hrl.out]) (by simp)
      clear ho hg O1 S1 f1 F1 hf HS hsz
      obtain ⟨g, rfl, hgb, hgc, hgm⟩ := O2.at0 (by simp)
      have hc9 : 9 ≤ c2 := by simp [hrl.out] at hgc; omega
      unfold maxLen at hgm
      clear hgc
      obtain ⟨R0, hR0⟩ : ∃ R0 : Bits, R0 = false :: rcR k := ⟨_, rfl⟩
      have hL0 : R0.length = 9 := by rw [hR0]; simp [hrl.out]
      rw [← hR0] at O2
      have HR0 := Lib.hid hR0
      clear hR0
      have HL0 := Lib.hid hL0
      have G2 := Lib.hid O2
      clear O2 hL0
      go_wp2_with fail
      refine wp_region_still_tail 9 (by kernel_rfl) (by kernel_rfl) ?_
      change wpStill Try.prog _ w2.drew (fun a' => wpList Try.prog _ _ _ a' w2.drew) _ _
      have F3 := F2.drew
      have G3 : Hid (OwB w2.drew w.heap.size 4 (some ⟨g, 0, none⟩) c2 R0) := G2.out.drew
      clear F2 G2
      generalize w2.drew = w3 at F3 G3 ⊢
      have q0 := (G3.out.cell (k := 0) (by rw [HL0.out]; decide)).1
      have q1 := (G3.out.cell (k := 8) (by rw [HL0.out]; decide)).1
      have q2 := (G3.out.cell (k := 0) (by rw [HL0.out]; decide)).2
      obtain ⟨v0, hv0⟩ : ∃ v0, v0 = R0.getD 0 false := ⟨_, rfl⟩
      obtain ⟨v1, hv1⟩ : ∃ v1, v1 = R0.getD 8 false := ⟨_, rfl⟩
      rw [← hv0] at q0
      rw [← hv1] at q1
      have HV := Lib.hid (And.intro hv0 hv1)
      clear hv0 hv1
      simp only [List.take_succ_cons, List.take_zero, List.drop_succ_cons, List.drop_zero]
      repeat still_step
      refine wpStill_nil ?_
      go_wp2_with fail
      have F4 : Fr [] w (w3.setCell ⟨g, 0, none⟩ (.bool (!(v0 == v1)))) := F3.setCell _ _ (.inl hgb)
      obtain ⟨R1, hR1⟩ : ∃ R1 : Bits, R1 = rcSet R0 0 := ⟨_, rfl⟩
      have G4 : Hid (OwB (w3.setCell ⟨g, 0, none⟩ (.bool (!(v0 == v1)))) w.heap.size 4 (some ⟨g, 0, none⟩) c2 R1) := by
        rw [hR1]
        unfold rcSet
        rw [← HV.out.1, ← HV.out.2]
        exact G3.out.set (by rw [HL0.out]; decide) _
      have HL1 : Hid (R1.length = 9) := by rw [hR1]; exact (rcSet_length _ _).trans HL0.out
      have HR1 := Lib.hid hR1
      clear hR1 q0 q1 q2 HV F3 G3
      generalize w3.setCell ⟨g, 0, none⟩ (.bool (!(v0 == v1))) = w4 at F4 G4 ⊢
      go_wp2_with fail
      refine wp_region_still_tail 9 (by kernel_rfl) (by kernel_rfl) ?_
      change wpStill Try.prog _ w4.drew (fun a' => wpList Try.prog _ _ _ a' w4.drew) _ _
      have F5 := F4.drew
      have G5 : Hid (OwB w4.drew w.heap.size 4 (some ⟨g, 0, none⟩) c2 R1) := G4.out.drew
      clear F4 G4
      generalize w4.drew = w5 at F5 G5 ⊢
      have q0 := (G5.out.cell (k := 4) (by rw [HL1.out]; decide)).1
      have q1 := (G5.out.cell (k := 8) (by rw [HL1.out]; decide)).1
      have q2 := (G5.out.cell (k := 4) (by rw [HL1.out]; decide)).2
      obtain ⟨v0, hv0⟩ : ∃ v0, v0 = R1.getD 4 false := ⟨_, rfl⟩
      obtain ⟨v1, hv1⟩ : ∃ v1, v1 = R1.getD 8 false := ⟨_, rfl⟩
      rw [← hv0] at q0
      rw [← hv1] at q1
      have HV := Lib.hid (And.intro hv0 hv1)
      clear hv0 hv1
      simp only [List.take_succ_cons, List.take_zero, List.drop_succ_cons, List.drop_zero]
      repeat still_step
      refine wpStill_nil ?_
      go_wp2_with fail
      have F6 : Fr [] w (w5.setCell ⟨g, 4, none⟩ (.bool (!(v0 == v1)))) := F5.setCell _ _ (.inl hgb)
      obtain ⟨R2, hR2⟩ : ∃ R2 : Bits, R2 = rcSet R1 4 := ⟨_, rfl⟩
      have G6 : Hid (OwB (w5.setCell ⟨g, 4, none⟩ (.bool (!(v0 == v1)))) w.heap.size 4 (some ⟨g, 0, none⟩) c2 R2) := by
        rw [hR2]
        unfold rcSet
        rw [← HV.out.1, ← HV.out.2]
        exact G5.out.set (by rw [HL1.out]; decide) _
      have HL2 : Hid (R2.length = 9) := by rw [hR2]; exact (rcSet_length _ _).trans HL1.out
      have HR2 := Lib.hid hR2
      clear hR2 q0 q1 q2 HV F5 G5
      generalize w5.setCell ⟨g, 4, none⟩ (.bool (!(v0 == v1))) = w6 at F6 G6 ⊢
      go_wp2_with fail
      refine wp_region_still_tail 9 (by kernel_rfl) (by kernel_rfl) ?_
      change wpStill Try.prog _ w6.drew (fun a' => wpList Try.prog _ _ _ a' w6.drew) _ _
      have F7 := F6.drew
      have G7 : Hid (OwB w6.drew w.heap.size 4 (some ⟨g, 0, none⟩) c2 R2) := G6.out.drew
      clear F6 G6
      generalize w6.drew = w7 at F7 G7 ⊢
      have q0 := (G7.out.cell (k := 5) (by rw [HL2.out]; decide)).1
      have q1 := (G7.out.cell (k := 8) (by rw [HL2.out]; decide)).1
      have q2 := (G7.out.cell (k := 5) (by rw [HL2.out]; decide)).2
      obtain ⟨v0, hv0⟩ : ∃ v0, v0 = R2.getD 5 false := ⟨_, rfl⟩
      obtain ⟨v1, hv1⟩ : ∃ v1, v1 = R2.getD 8 false := ⟨_, rfl⟩
      rw [← hv0] at q0
      rw [← hv1] at q1
      have HV := Lib.hid (And.intro hv0 hv1)
      clear hv0 hv1
      simp only [List.take_succ_cons, List.take_zero, List.drop_succ_cons, List.drop_zero]
      repeat still_step
      refine wpStill_nil ?_
      go_wp2_with fail
      have F8 : Fr [] w (w7.setCell ⟨g, 5, none⟩ (.bool (!(v0 == v1)))) := F7.setCell _ _ (.inl hgb)
      obtain ⟨R3, hR3⟩ : ∃ R3 : Bits, R3 = rcSet R2 5 := ⟨_, rfl⟩
      have G8 : Hid (OwB (w7.setCell ⟨g, 5, none⟩ (.bool (!(v0 == v1)))) w.heap.size 4 (some ⟨g, 0, none⟩) c2 R3) := by
        rw [hR3]
        unfold rcSet
        rw [← HV.out.1, ← HV.out.2]
        exact G7.out.set (by rw [HL2.out]; decide) _
      have HL3 : Hid (R3.length = 9) := by rw [hR3]; exact (rcSet_length _ _).trans HL2.out
      have HR3 := Lib.hid hR3
      clear hR3 q0 q1 q2 HV F7 G7
      generalize w7.setCell ⟨g, 5, none⟩ (.bool (!(v0 == v1))) = w8 at F8 G8 ⊢
      go_wp2_with fail
      refine wp_region_still_tail 9 (by kernel_rfl) (by kernel_rfl) ?_
      change wpStill Try.prog _ w8.drew (fun a' => wpList Try.prog _ _ _ a' w8.drew) _ _
      have F9 := F8.drew
      have G9 : Hid (OwB w8.drew w.heap.size 4 (some ⟨g, 0, none⟩) c2 R3) := G8.out.drew
      clear F8 G8
      generalize w8.drew = w9 at F9 G9 ⊢
      have q0 := (G9.out.cell (k := 6) (by rw [HL3.out]; decide)).1
      have q1 := (G9.out.cell (k := 8) (by rw [HL3.out]; decide)).1
      have q2 := (G9.out.cell (k := 6) (by rw [HL3.out]; decide)).2
      obtain ⟨v0, hv0⟩ : ∃ v0, v0 = R3.getD 6 false := ⟨_, rfl⟩
      obtain ⟨v1, hv1⟩ : ∃ v1, v1 = R3.getD 8 false := ⟨_, rfl⟩
      rw [← hv0] at q0
      rw [← hv1] at q1
      have HV := Lib.hid (And.intro hv0 hv1)
      clear hv0 hv1
      simp only [List.take_succ_cons, List.take_zero, List.drop_succ_cons, List.drop_zero]
      repeat still_step
      refine wpStill_nil ?_
      go_wp2_with fail
      have F10 : Fr [] w (w9.setCell ⟨g, 6, none⟩ (.bool (!(v0 == v1)))) := F9.setCell _ _ (.inl hgb)
      obtain ⟨R4, hR4⟩ : ∃ R4 : Bits, R4 = rcSet R3 6 := ⟨_, rfl⟩
      have G10 : Hid (OwB (w9.setCell ⟨g, 6, none⟩ (.bool (!(v0 == v1)))) w.heap.size 4 (some ⟨g, 0, none⟩) c2 R4) := by
        rw [hR4]
        unfold rcSet
        rw [← HV.out.1, ← HV.out.2]
        exact G9.out.set (by rw [HL3.out]; decide) _
      have HL4 : Hid (R4.length = 9) := by rw [hR4]; exact (rcSet_length _ _).trans HL3.out
      have HR4 := Lib.hid hR4
      clear hR4 q0 q1 q2 HV F9 G9
      generalize w9.setCell ⟨g, 6, none⟩ (.bool (!(v0 == v1))) = w10 at F10 G10 ⊢
      go_wp2_with fail
      refine ⟨RcRel.mk (k + 1) g c2 (by omega) (by simp) rfl ?_ F10, by simp [intOf]; omega⟩
      have e : rcR (k + 1) = R4.take 8 := by rw [HR4.out, HR3.out, HR2.out, HR1.out, HR0.out]; rfl
      rw [e]
      exact (G10.out.sl_at HL4.out).take 8 (by omega)
    · have q0 : w'.cell? ⟨ga, 0, none⟩ = some (.bool ((rcR k).getD 0 false)) := by
        rcases HS.out.cel with h | ⟨b, o, hb, hc⟩
        · omega
        · simp only [Option.some.injEq, Addr.mk.injEq] at hb
          obtain ⟨rfl, rfl, _⟩ := hb
          exact hc 0 (by omega)
      obtain rfl : k = M := by omega
      have HF := Lib.hid hf
      clear hf
      generalize hv : (rcR k).getD 0 false = v at q0
      have HV := Lib.hid hv
      clear hv
      go_wp2_with fail
      go_ret
      refine ⟨?_, HF.out⟩
      unfold rcB
      rw [← HM.out, HV.out]
      rfl
end Go.Proofs.Ythlknckmhjnkjaa
