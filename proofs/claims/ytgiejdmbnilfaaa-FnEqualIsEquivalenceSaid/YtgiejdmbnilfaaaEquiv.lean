/- FnEqualIsEquivalence: the walk. No condition but the form's own reach on lengths. -/
import Derived.Test.YtgiejdmbnilfaaaEq
import Derived.Test.YtgiejdmbnilfaaaOwn
namespace Go.Proofs.Ytgiejdmbnilfaaa
open Go.ChangeShapes Go.WideShapes Go.ChangeAt Go.RowKit Go.Sha

set_option maxHeartbeats 800000 in
theorem equiv_tt (a0 b0 c0 : Option Addr) (n m q ca cb cc : Nat) (x y z : Bs) (w : World) (hx : Sl w a0 n ca x) (hy : Sl w b0 m cb y) (hz : Sl w c0 q cc z)
    (hnx : n ≤ 140737488355328) (hny : m ≤ 140737488355328) (hnz : q ≤ 140737488355328) (hab : x = y) (hbc : y = z) :
    Calls Try.prog 3 #[.slice a0 n ca, .slice b0 m cb, .slice c0 q cc] w (RetB true w) := by
  have hlen : Hid (x = y → n = m) := fun e => by rw [← hx.len, ← hy.len, e]
  have HAB := Lib.hid hab
  have HBC := Lib.hid hbc
  clear hab hbc
  have hlm := hlen.out HAB.out
  subst hlm
  go_enter Try.func3, Try.ntmps3
  have F0 := Fr.refl [] w
  go_wp2_with fail
  refine (own_any _ _ _ x _ (hx.keep0 F0) hnx).mono ?_
  rintro e w1 ⟨a1, c1, rfl, o1, G1⟩
  have F1 := F0.trans G1
  have S1 := o1.sl
  go_wp2_with fail
  refine (own_any _ _ _ y _ (hy.keep0 F1) hny).mono ?_
  rintro e w2 ⟨a2, c2, rfl, o2, G2⟩
  have F2 := F1.trans G2
  have S2 := o2.sl
  replace S1 := S1.keep0 G2
  go_wp2_with fail
  refine (equalMACs_t _ _ _ _ _ _ _ _ _ S1 S2 (HAB.out)).mono ?_
  rintro e w3 ⟨rfl, G3⟩
  have F3 := F2.trans G3
  clear S1
  clear S2
  go_wp2_with fail
  refine (own_any _ _ _ y _ (hy.keep0 F3) hny).mono ?_
  rintro e w4 ⟨a3, c3, rfl, o3, G4⟩
  have F4 := F3.trans G4
  have S3 := o3.sl
  go_wp2_with fail
  refine (own_any _ _ _ z _ (hz.keep0 F4) hnz).mono ?_
  rintro e w5 ⟨a4, c4, rfl, o4, G5⟩
  have F5 := F4.trans G5
  have S4 := o4.sl
  replace S3 := S3.keep0 G5
  go_wp2_with fail
  refine (equalMACs_t _ _ _ _ _ _ _ _ _ S3 S4 (HBC.out)).mono ?_
  rintro e w6 ⟨rfl, G6⟩
  have F6 := F5.trans G6
  clear S3
  clear S4
  go_wp2_with fail
  refine (own_any _ _ _ x _ (hx.keep0 F6) hnx).mono ?_
  rintro e w7 ⟨a5, c5, rfl, o5, G7⟩
  have F7 := F6.trans G7
  have S5 := o5.sl
  go_wp2_with fail
  refine (own_any _ _ _ x _ (hx.keep0 F7) hnx).mono ?_
  rintro e w8 ⟨a6, c6, rfl, o6, G8⟩
  have F8 := F7.trans G8
  have S6 := o6.sl
  replace S5 := S5.keep0 G8
  go_wp2_with fail
  refine (equalMACs_t _ _ _ _ _ _ _ _ _ S5 S6 (rfl)).mono ?_
  rintro e w9 ⟨rfl, G9⟩
  have F9 := F8.trans G9
  clear S5
  clear S6
  go_wp2_with fail
  refine (own_any _ _ _ y _ (hy.keep0 F9) hny).mono ?_
  rintro e w10 ⟨a7, c7, rfl, o7, G10⟩
  have F10 := F9.trans G10
  have S7 := o7.sl
  go_wp2_with fail
  refine (own_any _ _ _ x _ (hx.keep0 F10) hnx).mono ?_
  rintro e w11 ⟨a8, c8, rfl, o8, G11⟩
  have F11 := F10.trans G11
  have S8 := o8.sl
  replace S7 := S7.keep0 G11
  go_wp2_with fail
  refine (equalMACs_t _ _ _ _ _ _ _ _ _ S7 S8 (HAB.out.symm)).mono ?_
  rintro e w12 ⟨rfl, G12⟩
  have F12 := F11.trans G12
  clear S7
  clear S8
  go_wp2_with fail
  refine (own_any _ _ _ x _ (hx.keep0 F12) hnx).mono ?_
  rintro e w13 ⟨a9, c9, rfl, o9, G13⟩
  have F13 := F12.trans G13
  have S9 := o9.sl
  go_wp2_with fail
  refine (own_any _ _ _ z _ (hz.keep0 F13) hnz).mono ?_
  rintro e w14 ⟨a10, c10, rfl, o10, G14⟩
  have F14 := F13.trans G14
  have S10 := o10.sl
  replace S9 := S9.keep0 G14
  go_wp2_with fail
  refine (equalMACs_t _ _ _ _ _ _ _ _ _ S9 S10 (HAB.out.trans HBC.out)).mono ?_
  rintro e w15 ⟨rfl, G15⟩
  have F15 := F14.trans G15
  clear S9
  clear S10
  go_wp2_with fail
  refine (own_any _ _ _ x _ (hx.keep0 F15) hnx).mono ?_
  rintro e w16 ⟨a11, c11, rfl, o11, G16⟩
  have F16 := F15.trans G16
  have S11 := o11.sl
  go_wp2_with fail
  refine (own_any _ _ _ z _ (hz.keep0 F16) hnz).mono ?_
  rintro e w17 ⟨a12, c12, rfl, o12, G17⟩
  have F17 := F16.trans G17
  have S12 := o12.sl
  replace S11 := S11.keep0 G17
  go_wp2_with fail
  refine (equalMACs_t _ _ _ _ _ _ _ _ _ S11 S12 (HAB.out.trans HBC.out)).mono ?_
  rintro e w18 ⟨rfl, G18⟩
  have F18 := F17.trans G18
  clear S11
  clear S12
  go_wp2_with fail
  go_ret
  exact ⟨rfl, F18⟩

set_option maxHeartbeats 800000 in
theorem equiv_tf (a0 b0 c0 : Option Addr) (n m q ca cb cc : Nat) (x y z : Bs) (w : World) (hx : Sl w a0 n ca x) (hy : Sl w b0 m cb y) (hz : Sl w c0 q cc z)
    (hnx : n ≤ 140737488355328) (hny : m ≤ 140737488355328) (hnz : q ≤ 140737488355328) (hab : x = y) (hbc : ¬ y = z) :
    Calls Try.prog 3 #[.slice a0 n ca, .slice b0 m cb, .slice c0 q cc] w (RetB true w) := by
  have hlen : Hid (x = y → n = m) := fun e => by rw [← hx.len, ← hy.len, e]
  have HAB := Lib.hid hab
  have HBC := Lib.hid hbc
  clear hab hbc
  have hlm := hlen.out HAB.out
  subst hlm
  go_enter Try.func3, Try.ntmps3
  have F0 := Fr.refl [] w
  go_wp2_with fail
  refine (own_any _ _ _ x _ (hx.keep0 F0) hnx).mono ?_
  rintro e w1 ⟨a1, c1, rfl, o1, G1⟩
  have F1 := F0.trans G1
  have S1 := o1.sl
  go_wp2_with fail
  refine (own_any _ _ _ y _ (hy.keep0 F1) hny).mono ?_
  rintro e w2 ⟨a2, c2, rfl, o2, G2⟩
  have F2 := F1.trans G2
  have S2 := o2.sl
  replace S1 := S1.keep0 G2
  go_wp2_with fail
  refine (equalMACs_t _ _ _ _ _ _ _ _ _ S1 S2 (HAB.out)).mono ?_
  rintro e w3 ⟨rfl, G3⟩
  have F3 := F2.trans G3
  clear S1
  clear S2
  go_wp2_with fail
  refine (own_any _ _ _ y _ (hy.keep0 F3) hny).mono ?_
  rintro e w4 ⟨a3, c3, rfl, o3, G4⟩
  have F4 := F3.trans G4
  have S3 := o3.sl
  go_wp2_with fail
  refine (own_any _ _ _ z _ (hz.keep0 F4) hnz).mono ?_
  rintro e w5 ⟨a4, c4, rfl, o4, G5⟩
  have F5 := F4.trans G5
  have S4 := o4.sl
  replace S3 := S3.keep0 G5
  go_wp2_with fail
  refine (equalMACs_f _ _ _ _ _ _ _ _ _ S3 S4 (HBC.out)).mono ?_
  rintro e w6 ⟨rfl, G6⟩
  have F6 := F5.trans G6
  clear S3
  clear S4
  go_wp2_with fail
  refine (own_any _ _ _ x _ (hx.keep0 F6) hnx).mono ?_
  rintro e w7 ⟨a5, c5, rfl, o5, G7⟩
  have F7 := F6.trans G7
  have S5 := o5.sl
  go_wp2_with fail
  refine (own_any _ _ _ x _ (hx.keep0 F7) hnx).mono ?_
  rintro e w8 ⟨a6, c6, rfl, o6, G8⟩
  have F8 := F7.trans G8
  have S6 := o6.sl
  replace S5 := S5.keep0 G8
  go_wp2_with fail
  refine (equalMACs_t _ _ _ _ _ _ _ _ _ S5 S6 (rfl)).mono ?_
  rintro e w9 ⟨rfl, G9⟩
  have F9 := F8.trans G9
  clear S5
  clear S6
  go_wp2_with fail
  refine (own_any _ _ _ y _ (hy.keep0 F9) hny).mono ?_
  rintro e w10 ⟨a7, c7, rfl, o7, G10⟩
  have F10 := F9.trans G10
  have S7 := o7.sl
  go_wp2_with fail
  refine (own_any _ _ _ x _ (hx.keep0 F10) hnx).mono ?_
  rintro e w11 ⟨a8, c8, rfl, o8, G11⟩
  have F11 := F10.trans G11
  have S8 := o8.sl
  replace S7 := S7.keep0 G11
  go_wp2_with fail
  refine (equalMACs_t _ _ _ _ _ _ _ _ _ S7 S8 (HAB.out.symm)).mono ?_
  rintro e w12 ⟨rfl, G12⟩
  have F12 := F11.trans G12
  clear S7
  clear S8
  go_wp2_with fail
  refine (own_any _ _ _ x _ (hx.keep0 F12) hnx).mono ?_
  rintro e w13 ⟨a11, c11, rfl, o11, G13⟩
  have F13 := F12.trans G13
  have S11 := o11.sl
  go_wp2_with fail
  refine (own_any _ _ _ z _ (hz.keep0 F13) hnz).mono ?_
  rintro e w14 ⟨a12, c12, rfl, o12, G14⟩
  have F14 := F13.trans G14
  have S12 := o12.sl
  replace S11 := S11.keep0 G14
  go_wp2_with fail
  refine (equalMACs_f _ _ _ _ _ _ _ _ _ S11 S12 (fun e => HBC.out (HAB.out.symm.trans e))).mono ?_
  rintro e w15 ⟨rfl, G15⟩
  have F15 := F14.trans G15
  clear S11
  clear S12
  go_wp2_with fail
  go_ret
  exact ⟨rfl, F15⟩

set_option maxHeartbeats 800000 in
theorem equiv_ft (a0 b0 c0 : Option Addr) (n m q ca cb cc : Nat) (x y z : Bs) (w : World) (hx : Sl w a0 n ca x) (hy : Sl w b0 m cb y) (hz : Sl w c0 q cc z)
    (hnx : n ≤ 140737488355328) (hny : m ≤ 140737488355328) (hnz : q ≤ 140737488355328) (hab : ¬ x = y) (hbc : y = z) :
    Calls Try.prog 3 #[.slice a0 n ca, .slice b0 m cb, .slice c0 q cc] w (RetB true w) := by
  have hlen : Hid (x = y → n = m) := fun e => by rw [← hx.len, ← hy.len, e]
  have HAB := Lib.hid hab
  have HBC := Lib.hid hbc
  clear hab hbc
  go_enter Try.func3, Try.ntmps3
  have F0 := Fr.refl [] w
  go_wp2_with fail
  refine (own_any _ _ _ x _ (hx.keep0 F0) hnx).mono ?_
  rintro e w1 ⟨a1, c1, rfl, o1, G1⟩
  have F1 := F0.trans G1
  have S1 := o1.sl
  go_wp2_with fail
  refine (own_any _ _ _ y _ (hy.keep0 F1) hny).mono ?_
  rintro e w2 ⟨a2, c2, rfl, o2, G2⟩
  have F2 := F1.trans G2
  have S2 := o2.sl
  replace S1 := S1.keep0 G2
  go_wp2_with fail
  refine (equalMACs_f _ _ _ _ _ _ _ _ _ S1 S2 (HAB.out)).mono ?_
  rintro e w3 ⟨rfl, G3⟩
  have F3 := F2.trans G3
  clear S1
  clear S2
  go_wp2_with fail
  refine (own_any _ _ _ y _ (hy.keep0 F3) hny).mono ?_
  rintro e w4 ⟨a3, c3, rfl, o3, G4⟩
  have F4 := F3.trans G4
  have S3 := o3.sl
  go_wp2_with fail
  refine (own_any _ _ _ z _ (hz.keep0 F4) hnz).mono ?_
  rintro e w5 ⟨a4, c4, rfl, o4, G5⟩
  have F5 := F4.trans G5
  have S4 := o4.sl
  replace S3 := S3.keep0 G5
  go_wp2_with fail
  refine (equalMACs_t _ _ _ _ _ _ _ _ _ S3 S4 (HBC.out)).mono ?_
  rintro e w6 ⟨rfl, G6⟩
  have F6 := F5.trans G6
  clear S3
  clear S4
  go_wp2_with fail
  refine (own_any _ _ _ x _ (hx.keep0 F6) hnx).mono ?_
  rintro e w7 ⟨a5, c5, rfl, o5, G7⟩
  have F7 := F6.trans G7
  have S5 := o5.sl
  go_wp2_with fail
  refine (own_any _ _ _ x _ (hx.keep0 F7) hnx).mono ?_
  rintro e w8 ⟨a6, c6, rfl, o6, G8⟩
  have F8 := F7.trans G8
  have S6 := o6.sl
  replace S5 := S5.keep0 G8
  go_wp2_with fail
  refine (equalMACs_t _ _ _ _ _ _ _ _ _ S5 S6 (rfl)).mono ?_
  rintro e w9 ⟨rfl, G9⟩
  have F9 := F8.trans G9
  clear S5
  clear S6
  go_wp2_with fail
  refine (own_any _ _ _ y _ (hy.keep0 F9) hny).mono ?_
  rintro e w10 ⟨a7, c7, rfl, o7, G10⟩
  have F10 := F9.trans G10
  have S7 := o7.sl
  go_wp2_with fail
  refine (own_any _ _ _ x _ (hx.keep0 F10) hnx).mono ?_
  rintro e w11 ⟨a8, c8, rfl, o8, G11⟩
  have F11 := F10.trans G11
  have S8 := o8.sl
  replace S7 := S7.keep0 G11
  go_wp2_with fail
  refine (equalMACs_f _ _ _ _ _ _ _ _ _ S7 S8 (fun e => HAB.out e.symm)).mono ?_
  rintro e w12 ⟨rfl, G12⟩
  have F12 := F11.trans G12
  clear S7
  clear S8
  go_wp2_with fail
  go_ret
  exact ⟨rfl, F12⟩

set_option maxHeartbeats 800000 in
theorem equiv_ff (a0 b0 c0 : Option Addr) (n m q ca cb cc : Nat) (x y z : Bs) (w : World) (hx : Sl w a0 n ca x) (hy : Sl w b0 m cb y) (hz : Sl w c0 q cc z)
    (hnx : n ≤ 140737488355328) (hny : m ≤ 140737488355328) (hnz : q ≤ 140737488355328) (hab : ¬ x = y) (hbc : ¬ y = z) :
    Calls Try.prog 3 #[.slice a0 n ca, .slice b0 m cb, .slice c0 q cc] w (RetB true w) := by
  have hlen : Hid (x = y → n = m) := fun e => by rw [← hx.len, ← hy.len, e]
  have HAB := Lib.hid hab
  have HBC := Lib.hid hbc
  clear hab hbc
  go_enter Try.func3, Try.ntmps3
  have F0 := Fr.refl [] w
  go_wp2_with fail
  refine (own_any _ _ _ x _ (hx.keep0 F0) hnx).mono ?_
  rintro e w1 ⟨a1, c1, rfl, o1, G1⟩
  have F1 := F0.trans G1
  have S1 := o1.sl
  go_wp2_with fail
  refine (own_any _ _ _ y _ (hy.keep0 F1) hny).mono ?_
  rintro e w2 ⟨a2, c2, rfl, o2, G2⟩
  have F2 := F1.trans G2
  have S2 := o2.sl
  replace S1 := S1.keep0 G2
  go_wp2_with fail
  refine (equalMACs_f _ _ _ _ _ _ _ _ _ S1 S2 (HAB.out)).mono ?_
  rintro e w3 ⟨rfl, G3⟩
  have F3 := F2.trans G3
  clear S1
  clear S2
  go_wp2_with fail
  refine (own_any _ _ _ y _ (hy.keep0 F3) hny).mono ?_
  rintro e w4 ⟨a3, c3, rfl, o3, G4⟩
  have F4 := F3.trans G4
  have S3 := o3.sl
  go_wp2_with fail
  refine (own_any _ _ _ z _ (hz.keep0 F4) hnz).mono ?_
  rintro e w5 ⟨a4, c4, rfl, o4, G5⟩
  have F5 := F4.trans G5
  have S4 := o4.sl
  replace S3 := S3.keep0 G5
  go_wp2_with fail
  refine (equalMACs_f _ _ _ _ _ _ _ _ _ S3 S4 (HBC.out)).mono ?_
  rintro e w6 ⟨rfl, G6⟩
  have F6 := F5.trans G6
  clear S3
  clear S4
  go_wp2_with fail
  refine (own_any _ _ _ x _ (hx.keep0 F6) hnx).mono ?_
  rintro e w7 ⟨a5, c5, rfl, o5, G7⟩
  have F7 := F6.trans G7
  have S5 := o5.sl
  go_wp2_with fail
  refine (own_any _ _ _ x _ (hx.keep0 F7) hnx).mono ?_
  rintro e w8 ⟨a6, c6, rfl, o6, G8⟩
  have F8 := F7.trans G8
  have S6 := o6.sl
  replace S5 := S5.keep0 G8
  go_wp2_with fail
  refine (equalMACs_t _ _ _ _ _ _ _ _ _ S5 S6 (rfl)).mono ?_
  rintro e w9 ⟨rfl, G9⟩
  have F9 := F8.trans G9
  clear S5
  clear S6
  go_wp2_with fail
  refine (own_any _ _ _ y _ (hy.keep0 F9) hny).mono ?_
  rintro e w10 ⟨a7, c7, rfl, o7, G10⟩
  have F10 := F9.trans G10
  have S7 := o7.sl
  go_wp2_with fail
  refine (own_any _ _ _ x _ (hx.keep0 F10) hnx).mono ?_
  rintro e w11 ⟨a8, c8, rfl, o8, G11⟩
  have F11 := F10.trans G11
  have S8 := o8.sl
  replace S7 := S7.keep0 G11
  go_wp2_with fail
  refine (equalMACs_f _ _ _ _ _ _ _ _ _ S7 S8 (fun e => HAB.out e.symm)).mono ?_
  rintro e w12 ⟨rfl, G12⟩
  have F12 := F11.trans G12
  clear S7
  clear S8
  go_wp2_with fail
  go_ret
  exact ⟨rfl, F12⟩

theorem equiv_walk (a0 b0 c0 : Option Addr) (n m q ca cb cc : Nat) (x y z : Bs) (w : World) (hx : Sl w a0 n ca x) (hy : Sl w b0 m cb y) (hz : Sl w c0 q cc z)
    (hnx : n ≤ 140737488355328) (hny : m ≤ 140737488355328) (hnz : q ≤ 140737488355328) :
    Calls Try.prog 3 #[.slice a0 n ca, .slice b0 m cb, .slice c0 q cc] w (RetB true w) := by
  by_cases hab : x = y <;> by_cases hbc : y = z
  · exact equiv_tt _ _ _ _ _ _ _ _ _ x y z w hx hy hz hnx hny hnz hab hbc
  · exact equiv_tf _ _ _ _ _ _ _ _ _ x y z w hx hy hz hnx hny hnz hab hbc
  · exact equiv_ft _ _ _ _ _ _ _ _ _ x y z w hx hy hz hnx hny hnz hab hbc
  · exact equiv_ff _ _ _ _ _ _ _ _ _ x y z w hx hy hz hnx hny hnz hab hbc
end Go.Proofs.Ytgiejdmbnilfaaa
