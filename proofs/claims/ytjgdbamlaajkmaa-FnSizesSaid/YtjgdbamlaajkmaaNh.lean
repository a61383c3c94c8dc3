/- Small functions of the thin package: place, copied, newHash. No condition but on lengths. -/
import Derived.Test.YtjgdbamlaajkmaaMarB
namespace Go.Sha
def rOf (k : Nat) : Nat := [144, 136, 104, 72, 136].getD k 136
def oOf (k : Nat) : Nat := [28, 32, 48, 64, 32].getD k 32
theorem rt_of : ∀ k, k < 5 → Rt (rOf k) (oOf k)
  | 0, _ => ⟨by decide, by decide, by decide, by decide⟩
  | 1, _ => ⟨by decide, by decide, by decide, by decide⟩
  | 2, _ => ⟨by decide, by decide, by decide, by decide⟩
  | 3, _ => ⟨by decide, by decide, by decide, by decide⟩
  | 4, _ => ⟨by decide, by decide, by decide, by decide⟩
  | k + 5, h => absurd h (by omega)
theorem ro_of : ∀ k, k < 5 → 200 - 2 * oOf k = rOf k := by decide
/-- a number modulo five -/
def k5 (z : Int) : Nat := (z % 5).toNat
theorem k5_lt (z : Int) : k5 z < 5 := by unfold k5; omega
theorem k5_int (z : Int) : z % 5 = (k5 z : Int) := by unfold k5; omega
end Go.Sha
namespace Go.Proofs.Ytjgdbamlaajkmaa
open Go.ChangeShapes Go.WideShapes Go.ChangeAt Go.RowKit Go.Sha
theorem tmod_add_emod' (n m : Int) (hm : 0 < m) : (n.tmod m + m) % m = n % m := by
  rw [Int.add_emod_right]
  rw [Int.tmod_eq_emod]
  split
  · simp
  · have h : ((m.natAbs : Nat) : Int) = m := by omega
    rw [h, Int.sub_emod_right, Int.emod_emod_of_dvd _ (Int.dvd_refl m)]
theorem place_any (n m : Int) (w : World) (h0 : 0 < m) (h1 : m ≤ 4611686018427387904) :
    Calls Try.prog 31 #[.int .i64 n, .int .i64 m] w fun e w' => e = .returned (.int .i64 (n % m)) ∧ w' = w := by
  have ht1 := Int.tmod_lt_of_pos n h0
  have ht2 : -m < n.tmod m := Int.lt_tmod_of_pos n h0
  have hm : ¬ m = 0 := by omega
  have hmz : (m == 0) = false := by rw [beq_eq_false_iff_ne]; exact hm
  go_enter Try.func31, Try.ntmps31
  go_wp2
  go_ret
  exact ⟨ret_int (tmod_add_emod' n m h0), rfl⟩
theorem place_nat (n m : Int) (k : Nat) (w : World) (h0 : 0 < m) (h1 : m ≤ 4611686018427387904) (hk : n % m = (k : Int)) :
    Calls Try.prog 31 #[.int .i64 n, .int .i64 m] w fun e w' => e = .returned (.int .i64 (k : Int)) ∧ w' = w := by
  have := place_any n m w h0 h1
  rwa [hk] at this
theorem copied_any (a0 : Option Addr) (n c : Nat) (l : Bs) (w : World) (h : Sl w a0 n c l) (hn : n ≤ 140737488355328) :
    Calls Try.prog 36 #[.slice a0 n c] w (RetO 5 l w) := by
  obtain ⟨i0, hi, hz0, hz1, hz2⟩ := info_parts info5
  go_enter Try.func36, Try.ntmps36
  go_wp2_with (at_builtin; refine wpList_append_src _ rfl _ _ 22 22 rfl w.heap.size 5 i0 (.int .u8 0) 1 1 Try.underlying22 hi hz0 hz1 hz2 rfl none 0 0 [] rfl (World.ownsRow_nil _ _ _ _) _ n (l.map bv) rfl (h.src Try.underlying22) ?c1 ?c2 ?c3 ?_)
  case c1 => unfold maxLen; omega
  case c2 => omega
  case c3 => exact Nat.le_refl _
  intro a' c' w' ho hg
  go_wp2
  go_ret
  have hl := h.len
  subst hl
  exact ⟨a', c', rfl, ho, (Fr.refl _ _).grown hg (by simp [Value.ownBlock])⟩
theorem copied_n (a0 : Option Addr) (n c : Nat) (l : Bs) (w : World) (h : Sl w a0 n c l) (hn : n ≤ 140737488355328) :
    Calls Try.prog 36 #[.slice a0 n c] w fun e w' => ∃ a c', e = .returned (.slice a n c') ∧ Ow w' w.heap.size 5 a c' l ∧ Fr [] w w' := by
  have := copied_any a0 n c l w h hn
  unfold RetO at this
  rwa [h.len] at this
/-- a pointer to a new hash -/
def RetH (r o : Nat) (w : World) (e : Ending) (w' : World) : Prop := ∃ g, e = .returned (.pointer (some ⟨g, 0, none⟩)) ∧ w.heap.size ≤ g ∧ g < w'.heap.size ∧ HsAt w' g 60 r o [] ∧ Fr [] w w'

theorem newHash_0 (kind : Int) (w : World) (hk : kind % 5 = ((0 : Nat) : Int)) : Calls Try.prog 27 #[.int .i64 kind] w (RetH (rOf 0) (oOf 0) w) := by
  have t0 : ((0 : Int) == 0) = true := by decide
  have HK := Lib.hid hk
  clear hk
  go_enter Try.func27, Try.ntmps27
  go_wp2_with fail
  refine (place_nat kind 5 0 w (by decide) (by decide) HK.out).mono ?_
  rintro e w' ⟨rfl, rfl⟩
  go_wp2_with fail
  refine (libNew224_any w').mono ?_
  rintro e w1 ⟨g, rfl, h1, h2, h3, h4⟩
  have H3 := Lib.hid h3
  clear h3
  go_wp2_with fail
  go_ret
  exact ⟨g, rfl, h1, h2, .inl H3.out, h4⟩

theorem newHash_1 (kind : Int) (w : World) (hk : kind % 5 = ((1 : Nat) : Int)) : Calls Try.prog 27 #[.int .i64 kind] w (RetH (rOf 1) (oOf 1) w) := by
  have t0 : ((1 : Int) == 0) = false := by decide
  have t1 : ((1 : Int) == 1) = true := by decide
  have HK := Lib.hid hk
  clear hk
  go_enter Try.func27, Try.ntmps27
  go_wp2_with fail
  refine (place_nat kind 5 1 w (by decide) (by decide) HK.out).mono ?_
  rintro e w' ⟨rfl, rfl⟩
  go_wp2_with fail
  refine (libNew256_any w').mono ?_
  rintro e w1 ⟨g, rfl, h1, h2, h3, h4⟩
  have H3 := Lib.hid h3
  clear h3
  go_wp2_with fail
  go_ret
  exact ⟨g, rfl, h1, h2, .inl H3.out, h4⟩

theorem newHash_2 (kind : Int) (w : World) (hk : kind % 5 = ((2 : Nat) : Int)) : Calls Try.prog 27 #[.int .i64 kind] w (RetH (rOf 2) (oOf 2) w) := by
  have t0 : ((2 : Int) == 0) = false := by decide
  have t1 : ((2 : Int) == 1) = false := by decide
  have t2 : ((2 : Int) == 2) = true := by decide
  have HK := Lib.hid hk
  clear hk
  go_enter Try.func27, Try.ntmps27
  go_wp2_with fail
  refine (place_nat kind 5 2 w (by decide) (by decide) HK.out).mono ?_
  rintro e w' ⟨rfl, rfl⟩
  go_wp2_with fail
  refine (libNew384_any w').mono ?_
  rintro e w1 ⟨g, rfl, h1, h2, h3, h4⟩
  have H3 := Lib.hid h3
  clear h3
  go_wp2_with fail
  go_ret
  exact ⟨g, rfl, h1, h2, .inl H3.out, h4⟩

theorem newHash_3 (kind : Int) (w : World) (hk : kind % 5 = ((3 : Nat) : Int)) : Calls Try.prog 27 #[.int .i64 kind] w (RetH (rOf 3) (oOf 3) w) := by
  have t0 : ((3 : Int) == 0) = false := by decide
  have t1 : ((3 : Int) == 1) = false := by decide
  have t2 : ((3 : Int) == 2) = false := by decide
  have t3 : ((3 : Int) == 3) = true := by decide
  have HK := Lib.hid hk
  clear hk
  go_enter Try.func27, Try.ntmps27
  go_wp2_with fail
  refine (place_nat kind 5 3 w (by decide) (by decide) HK.out).mono ?_
  rintro e w' ⟨rfl, rfl⟩
  go_wp2_with fail
  refine (libNew512_any w').mono ?_
  rintro e w1 ⟨g, rfl, h1, h2, h3, h4⟩
  have H3 := Lib.hid h3
  clear h3
  go_wp2_with fail
  go_ret
  exact ⟨g, rfl, h1, h2, .inl H3.out, h4⟩

set_option maxRecDepth 100000 in
theorem newHash_4 (kind : Int) (w : World) (hk : kind % 5 = ((4 : Nat) : Int)) : Calls Try.prog 27 #[.int .i64 kind] w (RetH (rOf 4) (oOf 4) w) := by
  have t0 : ((4 : Int) == 0) = false := by decide
  have t1 : ((4 : Int) == 1) = false := by decide
  have t2 : ((4 : Int) == 2) = false := by decide
  have t3 : ((4 : Int) == 3) = false := by decide
  have HK := Lib.hid hk
  clear hk
  go_enter Try.func27, Try.ntmps27
  go_wp2_with fail
  refine (place_nat kind 5 4 w (by decide) (by decide) HK.out).mono ?_
  rintro e w' ⟨rfl, rfl⟩
  go_wp2_with (first | (refine wpList_alloc_row rfl _ rfl _ zeroSH ?_; refine Hid.out ?_))
  show wpList _ _ _ _ _ _
  have D1 : Hid (DgAt (w'.alloc (.cells (newD 0 0 0).cells.toArray 60)) w'.heap.size 60 [] (newD 0 0 0)) := ⟨List.length_replicate, by rw [List.append_nil]; exact Go.heap_alloc_new w' _⟩
  have f1 : Fr [] w' (w'.alloc (.cells (newD 0 0 0).cells.toArray 60)) := (Fr.refl _ _).alloc _
  have z1 : w'.heap.size < (w'.alloc (.cells (newD 0 0 0).cells.toArray 60)).heap.size := by simp
  generalize w'.alloc (.cells (newD 0 0 0).cells.toArray 60) = w1 at D1 f1 z1 ⊢
  go_wp2_with fail
  go_ret
  exact ⟨_, rfl, Nat.le_refl _, z1, .inr ⟨rfl, rfl, rfl, D1.out⟩, f1⟩
theorem newHash_any (kind : Int) (w : World) : Calls Try.prog 27 #[.int .i64 kind] w (RetH (rOf (k5 kind)) (oOf (k5 kind)) w) := by
  have h := k5_int kind
  have hl := k5_lt kind
  generalize k5 kind = k at h hl
  obtain rfl | rfl | rfl | rfl | rfl : k = 0 ∨ k = 1 ∨ k = 2 ∨ k = 3 ∨ k = 4 := by omega
  · exact newHash_0 kind w h
  · exact newHash_1 kind w h
  · exact newHash_2 kind w h
  · exact newHash_3 kind w h
  · exact newHash_4 kind w h

end Go.Proofs.Ytjgdbamlaajkmaa
