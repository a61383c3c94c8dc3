/- The comparison of codes: ConstantTimeCompare, hmac.Equal and EqualMACs say whether two slices read as the same bytes. No condition. -/
import Derived.Test.YtgiejdmbnilfaaaBase
import Derived.LoopTactic
namespace Go.Proofs.Ytgiejdmbnilfaaa
open Go.ChangeShapes Go.WideShapes Go.ChangeAt Go.RowKit Go.Sha

theorem boolToU8 (b : Bool) (w : World) : (callFunc 15 #[.bool b]).run Try.prog w = .ok (.value (.int .u8 (if b then 1 else 0))) w := by
  rw [run_callFunc_ext Try.func15 #[.bool b] (pure (.int .u8 (if b then 1 else 0))) (by kernel_rfl) (by kernel_rfl) (by kernel_rfl) (by kernel_rfl)]
  rfl

theorem byteEq (x y : Int) (w : World) :
    Calls Try.prog 14 #[.int .u8 x, .int .u8 y] w fun e w' => e = .returned (.int .i64 (b2i (x == y))) ∧ w = w' := by
  have hb := boolToU8
  cases h : x == y
  all_goals
    go_enter Try.func14, Try.ntmps14
    go_wp2
    go_ret
    exact ⟨by simp [b2i], rfl⟩

theorem ctc_no (a0 b0 : Option Addr) (la ca lb cb : Nat) (w : World) (h : la ≠ lb) :
    Calls Try.prog 13 #[.slice a0 la ca, .slice b0 lb cb] w (RetI 0 w) := by
  have h1 : ((la : Int) != (lb : Int)) = true := by simp only [bne_iff_ne, ne_eq]; omega
  go_enter Try.func13, Try.ntmps13
  go_wp2
  go_ret
  exact ⟨rfl, Fr.refl _ _⟩

/-- 1 if the bytes are the same, else 0 -/
def eqI (x y : Bs) : Int := if x = y then 1 else 0
/-- what the loop has gathered at its k-th round -/
def CtcRel (w : World) (x y : Bs) (n : Nat) (v i : Value) (wr : World) : Prop :=
  ∃ (k : Nat) (u : UInt8), k ≤ n ∧ i = .int .i64 k ∧ v = .int .u8 u.toNat ∧ (u = 0 ↔ x.take k = y.take k) ∧ Fr [] w wr

theorem or_xor_zero (u a b : UInt8) : (u ||| (a ^^^ b)) = 0 ↔ u = 0 ∧ a = b := by
  constructor
  · intro h
    have h1 : (u ||| (a ^^^ b)).toBitVec = 0#8 := by rw [h]; rfl
    simp only [UInt8.toBitVec_or, UInt8.toBitVec_xor] at h1
    have h2 := BitVec.or_eq_zero_iff.1 h1
    refine ⟨UInt8.toBitVec_inj.1 h2.1, UInt8.toBitVec_inj.1 ?_⟩
    have h3 := h2.2
    exact BitVec.xor_eq_zero_iff.1 h3
  · rintro ⟨rfl, rfl⟩
    apply UInt8.toBitVec_inj.1
    simp
theorem take_succ_eq (x y : Bs) (k n : Nat) (hx : x.length = n) (hy : y.length = n) (h : k < n) :
    x.take (k + 1) = y.take (k + 1) ↔ x.take k = y.take k ∧ x.getD k 0 = y.getD k 0 := by
  rw [List.take_succ_eq_append_getElem (by omega), List.take_succ_eq_append_getElem (by omega)]
  rw [getD_at _ _ (by omega), getD_at _ _ (by omega)]
  constructor
  · intro e
    have := List.append_inj e (by simp; omega)
    simpa using this
  · rintro ⟨e1, e2⟩
    rw [e1, e2]
theorem ctc_step (w wr : World) (x y : Bs) (n k nq : Nat) (u : UInt8) (hx : x.length = n) (hy : y.length = n) (h : k < n) (hu : u = 0 ↔ x.take k = y.take k) (hf : Fr [] w wr) :
    CtcRel w x y n (Value.int IntKind.u8 (bits BinOp.or IntKind.u8 (↑u.toNat) (bits BinOp.xor IntKind.u8 ↑(x[k]?.getD 0).toNat ↑(y[k]?.getD 0).toNat)))
      (Value.int IntKind.i64 (↑k + 1)) (wr.drewN nq) := by
  refine ⟨k + 1, u ||| (x.getD k 0 ^^^ y.getD k 0), h, by simp, by rw [bits_xor, bits_or, getD_opt, getD_opt], ?_, hf.drewN _⟩
  rw [or_xor_zero, take_succ_eq x y k n hx hy h, hu]

set_option maxHeartbeats 400000 in
theorem ctc_yes (a0 b0 : Option Addr) (n ca cb : Nat) (x y : Bs) (w : World) (hx : Sl w a0 n ca x) (hy : Sl w b0 n cb y) :
    Calls Try.prog 13 #[.slice a0 n ca, .slice b0 n cb] w (RetI (eqI x y) w) := by
  have hm := hx.max
  have hc := hx.cap
  unfold maxLen at hm
  go_enter Try.func13, Try.ntmps13
  go_wp2
  go_loopw [5, 6] (fun v i wr => CtcRel w x y n v i wr) (fun _ i _ => n - (intOf i).toNat)
  case atStart => exact ⟨0, 0, Nat.zero_le _, rfl, rfl, by simp, Fr.refl _ _⟩
  case round =>
    obtain ⟨k, u, hk, rfl, rfl, hu, hf⟩ := hrel
    by_cases hlt : k < n
    · rcases hx.cel with h0 | ⟨b, o, rfl, hcx⟩
      · omega
      rcases hy.cel with h0 | ⟨b', o', rfl, hcy⟩
      · omega
      have q1 := hf.cell (hcx k hlt) (by simp)
      have q2 := hf.cell (hcy k hlt) (by simp)
      go_wp2
      go_quiet (fail)
      go_wp2
      refine ⟨ctc_step w wr x y n k _ u hx.len hy.len hlt hu hf, ?_⟩
      simp [intOf]; omega
    · go_wp2_with (go_at_call 14; refine (byteEq _ _ _).mono ?_; rintro e w' ⟨rfl, rfl⟩)
      go_ret
      obtain rfl : k = n := by omega
      rw [← hx.len, List.take_length, hx.len, ← hy.len, List.take_length] at hu
      refine ⟨ret_int ?_, hf⟩
      unfold eqI
      by_cases h : x = y
      · rw [if_pos h, hu.2 h]; rfl
      · rw [if_neg h]
        have : ¬ u = 0 := fun e => h (hu.1 e)
        have h2 : ((u.toNat : Int) == 0) = false := by
          rw [beq_eq_false_iff_ne]
          intro e
          exact this (UInt8.toNat_inj.1 (by simp; omega))
        rw [h2]; rfl

/-- ConstantTimeCompare: 1 if the two read as the same bytes, else 0 -/
theorem ctc (a0 b0 : Option Addr) (n m ca cb : Nat) (x y : Bs) (w : World) (hx : Sl w a0 n ca x) (hy : Sl w b0 m cb y) :
    Calls Try.prog 13 #[.slice a0 n ca, .slice b0 m cb] w (RetI (eqI x y) w) := by
  by_cases h : n = m
  · subst h
    exact ctc_yes a0 b0 n ca cb x y w hx hy
  · have h2 : eqI x y = 0 := by
      unfold eqI
      rw [if_neg]
      rintro rfl
      exact h (hx.len.symm.trans hy.len)
    rw [h2]
    exact ctc_no a0 b0 n ca m cb w h

theorem ctc2 (a0 b0 : Option Addr) (n m ca cb : Nat) (x y : Bs) (w : World) (hx : Sl w a0 n ca x) (hy : Sl w b0 m cb y) :
    Calls Try.prog 12 #[.slice a0 n ca, .slice b0 m cb] w (RetI (eqI x y) w) := by
  go_enter Try.func12, Try.ntmps12
  go_wp2_with fail
  refine (ctc _ _ _ _ _ _ x y _ hx hy).mono ?_
  rintro e w' ⟨rfl, hf⟩
  go_wp2_with fail
  go_ret
  exact ⟨rfl, hf⟩

theorem equal (a0 b0 : Option Addr) (n m ca cb : Nat) (x y : Bs) (w : World) (hx : Sl w a0 n ca x) (hy : Sl w b0 m cb y) :
    Calls Try.prog 11 #[.slice a0 n ca, .slice b0 m cb] w (RetB (x == y) w) := by
  go_enter Try.func11, Try.ntmps11
  go_wp2_with fail
  refine (ctc2 _ _ _ _ _ _ x y _ hx hy).mono ?_
  rintro e w' ⟨rfl, hf⟩
  go_wp2_with fail
  go_ret
  refine ⟨?_, hf⟩
  unfold eqI
  by_cases h : x = y <;> simp [h]

/-- EqualMACs tells whether the two read as the same bytes -/
theorem equalMACs (a0 b0 : Option Addr) (n m ca cb : Nat) (x y : Bs) (w : World) (hx : Sl w a0 n ca x) (hy : Sl w b0 m cb y) :
    Calls Try.prog 6 #[.slice a0 n ca, .slice b0 m cb] w (RetB (x == y) w) := by
  go_enter Try.func6, Try.ntmps6
  go_wp2_with fail
  refine (equal _ _ _ _ _ _ x y _ hx hy).mono ?_
  rintro e w' ⟨rfl, hf⟩
  go_wp2_with fail
  go_ret
  exact ⟨rfl, hf⟩
theorem equalMACs_t (a0 b0 : Option Addr) (n m ca cb : Nat) (x y : Bs) (w : World) (hx : Sl w a0 n ca x) (hy : Sl w b0 m cb y) (h : x = y) :
    Calls Try.prog 6 #[.slice a0 n ca, .slice b0 m cb] w (RetB true w) := by
  have := equalMACs a0 b0 n m ca cb x y w hx hy
  rwa [show (x == y) = true by simpa using h] at this
theorem equalMACs_f (a0 b0 : Option Addr) (n m ca cb : Nat) (x y : Bs) (w : World) (hx : Sl w a0 n ca x) (hy : Sl w b0 m cb y) (h : ¬ x = y) :
    Calls Try.prog 6 #[.slice a0 n ca, .slice b0 m cb] w (RetB false w) := by
  have := equalMACs a0 b0 n m ca cb x y w hx hy
  rwa [show (x == y) = false by simpa using h] at this
end Go.Proofs.Ytgiejdmbnilfaaa
