/- FnExactEqualMACs: the walk. No condition. -/
import Derived.Test.YtgiejdmbnilfaaaEq
import Derived.Test.YtgiejdmbnilfaaaCmp
import Derived.Test.YtgiejdmbnilfaaaSpecEq
import Derived.Test.YtgiejdmbnilfaaaToB
namespace Go.Proofs.Ytgiejdmbnilfaaa
open Go.ChangeShapes Go.WideShapes Go.ChangeAt Go.RowKit Go.Sha

theorem eqByteS_t (a0 b0 : Option Addr) (n m ca cb : Nat) (x : Bs) (w : World) (hx : Sl w a0 n ca x) (hy : Sl w b0 m cb x) :
    Calls Try.prog 10 #[.slice a0 n ca, .slice b0 m cb] w (RetB true w) := by
  have := eqByteS_any a0 b0 n m ca cb x x w hx hy
  rwa [show (x == x) = true by simp] at this

set_option maxHeartbeats 800000 in
theorem exact_small (a0 b0 : Option Addr) (n m ca cb : Nat) (x y : Bs) (w : World) (hx : Sl w a0 n ca x) (hy : Sl w b0 m cb y) (hn : n ≤ 1048576) (hm : m ≤ 1048576) :
    Calls Try.prog 5 #[.slice a0 n ca, .slice b0 m cb] w (RetB true w) := by
  have hb : ∀ b : Bool, (b != b) = false := fun b => by cases b <;> rfl
  go_enter Try.func5, Try.ntmps5
  have F0 := Fr.refl [] w
  go_wp2_with fail
  refine (toByteS_any _ _ _ x _ (hx.keep0 F0) (by omega)).mono ?_
  rintro e w1 ⟨a1, c1, rfl, o1, G1⟩
  have F1 := F0.trans G1
  have S1 := o1.sl
  clear o1
  go_wp2_with fail
  refine (toByteS_any _ _ _ y _ (hy.keep0 F1) (by omega)).mono ?_
  rintro e w2 ⟨a2, c2, rfl, o2, G2⟩
  have F2 := F1.trans G2
  have S2 := o2.sl
  clear o2
  replace S1 := S1.keep0 G2
  go_wp2_with fail
  refine (specEq_any _ _ _ _ _ _ _ _ _ S1 S2).mono ?_
  rintro e w3 ⟨rfl, G3⟩
  have F3 := F2.trans G3
  clear S1
  clear S2
  go_wp2_with fail
  refine (toByteS_any _ _ _ x _ (hx.keep0 F3) (by omega)).mono ?_
  rintro e w4 ⟨a3, c3, rfl, o3, G4⟩
  have F4 := F3.trans G4
  have S3 := o3.sl
  clear o3
  go_wp2_with fail
  refine (toByteS_any _ _ _ y _ (hy.keep0 F4) (by omega)).mono ?_
  rintro e w5 ⟨a4, c4, rfl, o4, G5⟩
  have F5 := F4.trans G5
  have S4 := o4.sl
  clear o4
  replace S3 := S3.keep0 G5
  go_wp2_with fail
  refine (equalMACs _ _ _ _ _ _ _ _ _ S3 S4).mono ?_
  rintro e w6 ⟨rfl, G6⟩
  have F6 := F5.trans G6
  replace S3 := S3.keep0 G6
  replace S4 := S4.keep0 G6
  go_wp2_with fail
  refine (toByteS_any _ _ _ x _ (hx.keep0 F6) (by omega)).mono ?_
  rintro e w7 ⟨a5, c5, rfl, o5, G7⟩
  have F7 := F6.trans G7
  have S5 := o5.sl
  clear o5
  replace S3 := S3.keep0 G7
  replace S4 := S4.keep0 G7
  go_wp2_with fail
  refine (eqByteS_t _ _ _ _ _ _ _ _ S3 S5).mono ?_
  rintro e w8 ⟨rfl, G8⟩
  have F8 := F7.trans G8
  clear S3
  clear S5
  replace S4 := S4.keep0 G8
  go_wp2_with fail
  refine (toByteS_any _ _ _ y _ (hy.keep0 F8) (by omega)).mono ?_
  rintro e w9 ⟨a6, c6, rfl, o6, G9⟩
  have F9 := F8.trans G9
  have S6 := o6.sl
  clear o6
  replace S4 := S4.keep0 G9
  go_wp2_with fail
  refine (eqByteS_t _ _ _ _ _ _ _ _ S4 S6).mono ?_
  rintro e w10 ⟨rfl, G10⟩
  have F10 := F9.trans G10
  clear S4
  clear S6
  go_wp2_with fail
  go_ret
  exact ⟨rfl, F10⟩

theorem exact_walk (a0 b0 : Option Addr) (n m ca cb : Nat) (x y : Bs) (w : World) (hx : Sl w a0 n ca x) (hy : Sl w b0 m cb y) :
    Calls Try.prog 5 #[.slice a0 n ca, .slice b0 m cb] w (RetB true w) := by
  by_cases hn : n ≤ 1048576
  · by_cases hm : m ≤ 1048576
    · exact exact_small a0 b0 n m ca cb x y w hx hy hn hm
    · have h1 : decide ((1048576 : Int) < (n : Int)) = false := by simp; omega
      have h2 : decide ((1048576 : Int) < (m : Int)) = true := by simp; omega
      go_enter Try.func5, Try.ntmps5
      go_wp2
      go_ret
      exact ⟨rfl, Fr.refl _ _⟩
  · have h1 : decide ((1048576 : Int) < (n : Int)) = true := by simp; omega
    go_enter Try.func5, Try.ntmps5
    go_wp2
    go_ret
    exact ⟨rfl, Fr.refl _ _⟩
end Go.Proofs.Ytgiejdmbnilfaaa
