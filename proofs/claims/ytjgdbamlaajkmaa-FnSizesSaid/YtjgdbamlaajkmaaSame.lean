/- same of the laws tells whether two slices read as the same bytes. No condition. -/
import Derived.Test.YtjgdbamlaajkmaaCmpLem
namespace Go.Proofs.Ytjgdbamlaajkmaa
open Go.ChangeShapes Go.WideShapes Go.ChangeAt Go.RowKit Go.Sha

set_option maxHeartbeats 400000 in
theorem same_same (a0 b0 : Option Addr) (n ca cb : Nat) (x y : Bs) (w : World) (hx : Sl w a0 n ca x) (hy : Sl w b0 n cb y) :
    Calls Try.prog 21 #[.slice a0 n ca, .slice b0 n cb] w (RetB (x == y) w) := by
  have hm := hx.max
  have hc := hx.cap
  unfold maxLen at hm
  generalize hr : (x == y) = r
  have HR := Lib.hid hr
  clear hr
  go_enter Try.func21, Try.ntmps21
  go_wp2
  go_loopw [5, 13] (fun _ i wr => SameRel w x y n i wr) (fun _ i _ => n - (intOf i).toNat)
  case atStart => exact ⟨0, Nat.zero_le _, rfl, by simp, Fr.refl _ _⟩
  case round =>
    obtain ⟨k, hk, rfl, hu, hf⟩ := hrel
    have HU := Lib.hid hu
    clear hu
    by_cases hlt : k < n
    · rcases hx.cel with h0 | ⟨b, o, rfl, hcx⟩
      · omega
      rcases hy.cel with h0 | ⟨b', o', rfl, hcy⟩
      · omega
      have q1 := hf.cell (hcx k hlt) (by simp)
      have q2 := hf.cell (hcy k hlt) (by simp)
      generalize hX : x.getD k 0 = X at q1
      generalize hY : y.getD k 0 = Y at q2
      have HX := Lib.hid hX
      have HY := Lib.hid hY
      clear hX hY hcx hcy
      by_cases hne : X = Y
      · have hd := nat_eq hne
        have HE := Lib.hid hne
        clear hne
        go_wp2
        go_quiet (fail)
        go_wp2
        refine ⟨⟨k + 1, hlt, by simp, take_snoc_eq hx.len hy.len hlt HU.out (by rw [HX.out, HY.out]; exact HE.out), hf.drewN _⟩, ?_⟩
        simp [intOf]; omega
      · have hd := nat_ne hne
        have HE := Lib.hid hne
        clear hne
        go_wp2
        go_quiet (fail)
        go_wp2
        go_ret
        have h1 : (x == y) = false := same_no (k := k) (by rw [HX.out, HY.out]; exact HE.out)
        rw [← HR.out, h1]
        exact ⟨rfl, hf.drewN _⟩
    · go_wp2
      go_ret
      obtain rfl : k = n := by omega
      rw [← HR.out, same_yes hx.len hy.len HU.out]
      exact ⟨rfl, hf⟩

/-- same tells whether the two read as the same bytes -/
theorem same_any (a0 b0 : Option Addr) (n m ca cb : Nat) (x y : Bs) (w : World) (hx : Sl w a0 n ca x) (hy : Sl w b0 m cb y) :
    Calls Try.prog 21 #[.slice a0 n ca, .slice b0 m cb] w (RetB (x == y) w) := by
  by_cases h : n = m
  · subst h
    exact same_same a0 b0 n ca cb x y w hx hy
  · rw [same_len hx.len hy.len h]
    have h1 : ((n : Int) != (m : Int)) = true := by rw [bne_iff_ne]; omega
    go_enter Try.func21, Try.ntmps21
    go_wp2
    go_ret
    exact ⟨rfl, Fr.refl _ _⟩
end Go.Proofs.Ytjgdbamlaajkmaa
