/- FnEqualTellsBytes: the walk. No condition but the form's own reach on lengths. -/
import Derived.Test.YtgiejdmbnilfaaaEq
import Derived.Test.YtgiejdmbnilfaaaOwn
namespace Go.Proofs.Ytgiejdmbnilfaaa
open Go.ChangeShapes Go.WideShapes Go.ChangeAt Go.RowKit Go.Sha

theorem ne_snoc (x : Bs) (u : UInt8) : ¬ x = x ++ [u] := fun e => by
  have := congrArg List.length e
  simp at this

theorem set_xor_same (x : Bs) (k : Nat) (u : UInt8) (hk : k < x.length) (hu : ((u.toNat : Int) == 0) = true) : x = x.set k (x[k] ^^^ u) := by
  have : u = 0 := UInt8.toNat_inj.1 (by simp at hu; simpa using hu)
  subst this
  have : x[k] ^^^ 0 = x[k] := by simp
  rw [this, List.set_getElem_self]
theorem set_xor_other (x : Bs) (k : Nat) (u : UInt8) (hk : k < x.length) (hu : ((u.toNat : Int) == 0) = false) : ¬ x = x.set k (x[k] ^^^ u) := by
  intro e
  have h1 : x[k] = (x.set k (x[k] ^^^ u))[k]'(by simpa using hk) := by
    conv => lhs; rw [List.getElem_of_eq e hk]
  rw [List.getElem_set_self] at h1
  have h2 : x[k] ^^^ x[k] = x[k] ^^^ (x[k] ^^^ u) := by rw [← h1]
  rw [← UInt8.xor_assoc, UInt8.xor_self, UInt8.zero_xor] at h2
  rw [← h2] at hu
  simp at hu

set_option maxHeartbeats 800000 in
theorem tells_same (a0 : Option Addr) (n ca : Nat) (x : Bs) (i : Int) (u : UInt8) (w : World) (hx : Sl w a0 n ca x) (hnx : n ≤ 140737488351232) (hi : -9223372036854775808 ≤ i) (hi2 : i ≤ 9223372036854775807)
    (hn0 : 0 < n) (hu : ((u.toNat : Int) == 0) = true) :
    Calls Try.prog 4 #[.slice a0 n ca, .int .i64 i, .int .u8 u.toNat] w (RetB true w) := by
  obtain ⟨i0, hi0, hz0, hz1, hz2⟩ := info_parts info5
  have hn1 : ((n : Int) == 0) = false := by rw [beq_eq_false_iff_ne]; omega
  have ht1 := Int.tmod_lt_of_pos i (show (0 : Int) < n by omega)
  have ht2 : -(n : Int) < i.tmod n := Int.lt_tmod_of_pos i (by omega)
  obtain ⟨k, hk, hkn⟩ : ∃ k : Nat, (i.tmod n + n) % n = (k : Int) ∧ k < n :=
    ⟨((i.tmod n + n) % n).toNat, by rw [Int.toNat_of_nonneg (Int.emod_nonneg _ (by omega))], by have := Int.emod_lt_of_pos (i.tmod n + n) (show (0 : Int) < n by omega); omega⟩
  have HL := Lib.hid hx.len
  go_enter Try.func4, Try.ntmps4
  have F0 := Fr.refl [] w
  go_wp2_with fail
  refine (own_any _ _ _ x _ (hx.keep0 F0) (by omega)).mono ?_
  rintro e w1 ⟨a1, c1, rfl, o1, F1⟩
  go_wp2_with (at_builtin; refine wpList_append_src _ rfl _ _ 22 22 rfl w.heap.size 5 i0 (.int .u8 0) 1 1 Try.underlying22 hi0 hz0 hz1 hz2 rfl a1 _ c1 _ rfl (World.ownsRow.alloc o1 _) _ 1 ([u].map bv) rfl ((Sl.one w1 u _).src Try.underlying22) ?c1 ?c2 ?c3 ?_)
  case c1 => rw [HL.out]; unfold maxLen; omega
  case c2 => rw [HL.out]; omega
  case c3 => have := F1.size; simp; omega
  intro a2 c2 w2 o2 g2
  have O2 : Ow w2 w.heap.size 5 a2 c2 (x ++ [u]) := Ow.of o2 (by simp) (by simp)
  have S2 : Sl w2 a2 (x.length + 1) c2 (x ++ [u]) := by simpa using O2.sl
  have F2 : Fr [] w w2 := (F1.alloc _).grown g2 (fun k hk => .inl (by
    cases a1 with
    | none => simp [Value.ownBlock] at hk
    | some ad => simp only [Value.ownBlock, Option.some.injEq] at hk; subst hk; exact (Ow.block o1).2.2.1))
  clear o1 g2 o2 O2
  go_wp2_with fail
  refine (own_any _ _ _ x _ (hx.keep0 F2) (by omega)).mono ?_
  rintro e w3 ⟨a3, c3, rfl, o3, G3⟩
  have F3 := F2.trans G3
  have S3 := o3.sl
  replace S2 := S2.keep0 G3
  go_wp2_with fail
  refine (equalMACs_f _ _ _ _ _ _ _ _ _ S3 S2 (ne_snoc x u)).mono ?_
  rintro e w4 ⟨rfl, G4⟩
  have F4 := F3.trans G4
  replace S2 := S2.keep0 G4
  clear S3 o3
  go_wp2_with fail
  refine (own_any _ _ _ x _ (hx.keep0 F4) (by omega)).mono ?_
  rintro e w5 ⟨a5, c5, rfl, o5, G5⟩
  have F5 := F4.trans G5
  have S5 := o5.sl
  replace S2 := S2.keep0 G5
  go_wp2_with fail
  refine (equalMACs_f _ _ _ _ _ _ _ _ _ S2 S5 (fun e => ne_snoc x u e.symm)).mono ?_
  rintro e w6 ⟨rfl, G6⟩
  have F6 := F5.trans G6
  clear S5 o5 S2
  go_wp2_with fail
  refine (own_any _ _ _ x _ (hx.keep0 F6) (by omega)).mono ?_
  rintro e w7 ⟨a7, c7, rfl, o7, G7⟩
  have F7 := F6.trans G7
  have hl0 : 0 < x.length := by rw [HL.out]; exact hn0
  obtain ⟨g, _, rfl, hg7, _⟩ := o7.open hl0
  have q7 := (o7.cell (k := k) (by rw [HL.out]; exact hkn)).1
  have q8 := (o7.cell (k := k) (by rw [HL.out]; exact hkn)).2
  have hkl : k < x.length := by rw [HL.out]; exact hkn
  go_wp2_with fail
  rw [bits_xor]
  have o8 := o7.set hkl (x[k] ^^^ u)
  have F8 : Fr [] w (w7.setCell ⟨g, k, none⟩ (.int .u8 (x[k] ^^^ u).toNat)) := F7.setCell _ _ (.inl (by have := F6.size; simp; omega))
  generalize w7.setCell ⟨g, k, none⟩ (.int .u8 (x[k] ^^^ u).toNat) = w8 at o8 F8 ⊢
  have S8 : Sl w8 (some ⟨g, 0, none⟩) x.length c7 (x.set k (x[k] ^^^ u)) := by simpa using o8.sl
  clear q7 q8 o7 o8
  refine (own_any _ _ _ x _ (hx.keep0 F8) (by omega)).mono ?_
  rintro e w9 ⟨a9, c9, rfl, o9, G9⟩
  have F9 := F8.trans G9
  have S9 := o9.sl
  replace S8 := S8.keep0 G9
  go_wp2_with fail
  refine (equalMACs_t _ _ _ _ _ _ _ _ _ S9 S8 (set_xor_same x k u hkl hu)).mono ?_
  rintro e w10 ⟨rfl, G10⟩
  have F10 := F9.trans G10
  go_wp2_with fail
  go_ret
  exact ⟨rfl, F10⟩

set_option maxHeartbeats 800000 in
theorem tells_other (a0 : Option Addr) (n ca : Nat) (x : Bs) (i : Int) (u : UInt8) (w : World) (hx : Sl w a0 n ca x) (hnx : n ≤ 140737488351232) (hi : -9223372036854775808 ≤ i) (hi2 : i ≤ 9223372036854775807)
    (hn0 : 0 < n) (hu : ((u.toNat : Int) == 0) = false) :
    Calls Try.prog 4 #[.slice a0 n ca, .int .i64 i, .int .u8 u.toNat] w (RetB true w) := by
  obtain ⟨i0, hi0, hz0, hz1, hz2⟩ := info_parts info5
  have hn1 : ((n : Int) == 0) = false := by rw [beq_eq_false_iff_ne]; omega
  have ht1 := Int.tmod_lt_of_pos i (show (0 : Int) < n by omega)
  have ht2 : -(n : Int) < i.tmod n := Int.lt_tmod_of_pos i (by omega)
  obtain ⟨k, hk, hkn⟩ : ∃ k : Nat, (i.tmod n + n) % n = (k : Int) ∧ k < n :=
    ⟨((i.tmod n + n) % n).toNat, by rw [Int.toNat_of_nonneg (Int.emod_nonneg _ (by omega))], by have := Int.emod_lt_of_pos (i.tmod n + n) (show (0 : Int) < n by omega); omega⟩
  have HL := Lib.hid hx.len
  go_enter Try.func4, Try.ntmps4
  have F0 := Fr.refl [] w
  go_wp2_with fail
  refine (own_any _ _ _ x _ (hx.keep0 F0) (by omega)).mono ?_
  rintro e w1 ⟨a1, c1, rfl, o1, F1⟩
  go_wp2_with (at_builtin; refine wpList_append_src _ rfl _ _ 22 22 rfl w.heap.size 5 i0 (.int .u8 0) 1 1 Try.underlying22 hi0 hz0 hz1 hz2 rfl a1 _ c1 _ rfl (World.ownsRow.alloc o1 _) _ 1 ([u].map bv) rfl ((Sl.one w1 u _).src Try.underlying22) ?c1 ?c2 ?c3 ?_)
  case c1 => rw [HL.out]; unfold maxLen; omega
  case c2 => rw [HL.out]; omega
  case c3 => have := F1.size; simp; omega
  intro a2 c2 w2 o2 g2
  have O2 : Ow w2 w.heap.size 5 a2 c2 (x ++ [u]) := Ow.of o2 (by simp) (by simp)
  have S2 : Sl w2 a2 (x.length + 1) c2 (x ++ [u]) := by simpa using O2.sl
  have F2 : Fr [] w w2 := (F1.alloc _).grown g2 (fun k hk => .inl (by
    cases a1 with
    | none => simp [Value.ownBlock] at hk
    | some ad => simp only [Value.ownBlock, Option.some.injEq] at hk; subst hk; exact (Ow.block o1).2.2.1))
  clear o1 g2 o2 O2
  go_wp2_with fail
  refine (own_any _ _ _ x _ (hx.keep0 F2) (by omega)).mono ?_
  rintro e w3 ⟨a3, c3, rfl, o3, G3⟩
  have F3 := F2.trans G3
  have S3 := o3.sl
  replace S2 := S2.keep0 G3
  go_wp2_with fail
  refine (equalMACs_f _ _ _ _ _ _ _ _ _ S3 S2 (ne_snoc x u)).mono ?_
  rintro e w4 ⟨rfl, G4⟩
  have F4 := F3.trans G4
  replace S2 := S2.keep0 G4
  clear S3 o3
  go_wp2_with fail
  refine (own_any _ _ _ x _ (hx.keep0 F4) (by omega)).mono ?_
  rintro e w5 ⟨a5, c5, rfl, o5, G5⟩
  have F5 := F4.trans G5
  have S5 := o5.sl
  replace S2 := S2.keep0 G5
  go_wp2_with fail
  refine (equalMACs_f _ _ _ _ _ _ _ _ _ S2 S5 (fun e => ne_snoc x u e.symm)).mono ?_
  rintro e w6 ⟨rfl, G6⟩
  have F6 := F5.trans G6
  clear S5 o5 S2
  go_wp2_with fail
  refine (own_any _ _ _ x _ (hx.keep0 F6) (by omega)).mono ?_
  rintro e w7 ⟨a7, c7, rfl, o7, G7⟩
  have F7 := F6.trans G7
  have hl0 : 0 < x.length := by rw [HL.out]; exact hn0
  obtain ⟨g, _, rfl, hg7, _⟩ := o7.open hl0
  have q7 := (o7.cell (k := k) (by rw [HL.out]; exact hkn)).1
  have q8 := (o7.cell (k := k) (by rw [HL.out]; exact hkn)).2
  have hkl : k < x.length := by rw [HL.out]; exact hkn
  go_wp2_with fail
  rw [bits_xor]
  have o8 := o7.set hkl (x[k] ^^^ u)
  have F8 : Fr [] w (w7.setCell ⟨g, k, none⟩ (.int .u8 (x[k] ^^^ u).toNat)) := F7.setCell _ _ (.inl (by have := F6.size; simp; omega))
  generalize w7.setCell ⟨g, k, none⟩ (.int .u8 (x[k] ^^^ u).toNat) = w8 at o8 F8 ⊢
  have S8 : Sl w8 (some ⟨g, 0, none⟩) x.length c7 (x.set k (x[k] ^^^ u)) := by simpa using o8.sl
  clear q7 q8 o7 o8
  refine (own_any _ _ _ x _ (hx.keep0 F8) (by omega)).mono ?_
  rintro e w9 ⟨a9, c9, rfl, o9, G9⟩
  have F9 := F8.trans G9
  have S9 := o9.sl
  replace S8 := S8.keep0 G9
  go_wp2_with fail
  refine (equalMACs_f _ _ _ _ _ _ _ _ _ S9 S8 (set_xor_other x k u hkl hu)).mono ?_
  rintro e w10 ⟨rfl, G10⟩
  have F10 := F9.trans G10
  go_wp2_with fail
  go_ret
  exact ⟨rfl, F10⟩

set_option maxHeartbeats 800000 in
theorem tells_none (a0 : Option Addr) (ca : Nat) (x : Bs) (i : Int) (u : UInt8) (w : World) (hx : Sl w a0 0 ca x) :
    Calls Try.prog 4 #[.slice a0 0 ca, .int .i64 i, .int .u8 u.toNat] w (RetB true w) := by
  obtain ⟨i0, hi0, hz0, hz1, hz2⟩ := info_parts info5
  have HL := Lib.hid hx.len
  go_enter Try.func4, Try.ntmps4
  have F0 := Fr.refl [] w
  go_wp2_with fail
  refine (own_any _ _ _ x _ (hx.keep0 F0) (by omega)).mono ?_
  rintro e w1 ⟨a1, c1, rfl, o1, F1⟩
  go_wp2_with (at_builtin; refine wpList_append_src _ rfl _ _ 22 22 rfl w.heap.size 5 i0 (.int .u8 0) 1 1 Try.underlying22 hi0 hz0 hz1 hz2 rfl a1 _ c1 _ rfl (World.ownsRow.alloc o1 _) _ 1 ([u].map bv) rfl ((Sl.one w1 u _).src Try.underlying22) ?c1 ?c2 ?c3 ?_)
  case c1 => rw [HL.out]; unfold maxLen; omega
  case c2 => rw [HL.out]; omega
  case c3 => have := F1.size; simp; omega
  intro a2 c2 w2 o2 g2
  have O2 : Ow w2 w.heap.size 5 a2 c2 (x ++ [u]) := Ow.of o2 (by simp) (by simp)
  have S2 : Sl w2 a2 (x.length + 1) c2 (x ++ [u]) := by simpa using O2.sl
  have F2 : Fr [] w w2 := (F1.alloc _).grown g2 (fun k hk => .inl (by
    cases a1 with
    | none => simp [Value.ownBlock] at hk
    | some ad => simp only [Value.ownBlock, Option.some.injEq] at hk; subst hk; exact (Ow.block o1).2.2.1))
  clear o1 g2 o2 O2
  go_wp2_with fail
  refine (own_any _ _ _ x _ (hx.keep0 F2) (by omega)).mono ?_
  rintro e w3 ⟨a3, c3, rfl, o3, G3⟩
  have F3 := F2.trans G3
  have S3 := o3.sl
  replace S2 := S2.keep0 G3
  go_wp2_with fail
  refine (equalMACs_f _ _ _ _ _ _ _ _ _ S3 S2 (ne_snoc x u)).mono ?_
  rintro e w4 ⟨rfl, G4⟩
  have F4 := F3.trans G4
  replace S2 := S2.keep0 G4
  clear S3 o3
  go_wp2_with fail
  refine (own_any _ _ _ x _ (hx.keep0 F4) (by omega)).mono ?_
  rintro e w5 ⟨a5, c5, rfl, o5, G5⟩
  have F5 := F4.trans G5
  have S5 := o5.sl
  replace S2 := S2.keep0 G5
  go_wp2_with fail
  refine (equalMACs_f _ _ _ _ _ _ _ _ _ S2 S5 (fun e => ne_snoc x u e.symm)).mono ?_
  rintro e w6 ⟨rfl, G6⟩
  have F6 := F5.trans G6
  clear S5 o5 S2
  go_wp2_with fail
  refine (equalMACs_t _ _ _ _ _ _ [] [] _ ⟨rfl, Nat.le_refl _, by simp [maxLen], .inl rfl⟩ ⟨rfl, Nat.le_refl _, by simp [maxLen], .inl rfl⟩ rfl).mono ?_
  rintro e w7 ⟨rfl, G7⟩
  go_wp2_with fail
  go_ret
  exact ⟨rfl, (F6.alloc _).trans G7⟩

theorem tells_walk (a0 : Option Addr) (n ca : Nat) (x : Bs) (i : Int) (b : Int) (w : World) (hx : Sl w a0 n ca x) (hnx : n ≤ 140737488351232) (hi : (Lit.int .i64 i).wf = true) (hb : (Lit.int .u8 b).wf = true) :
    Calls Try.prog 4 #[.slice a0 n ca, .int .i64 i, .int .u8 b] w (RetB true w) := by
  obtain ⟨u, rfl⟩ : ∃ u : UInt8, b = u.toNat := by
    have h1 : 0 ≤ b ∧ b ≤ 255 := by simp [Lit.wf, IntKind.min, IntKind.max, IntKind.signed, IntKind.bits] at hb; omega
    exact ⟨UInt8.ofNat b.toNat, by rw [UInt8.toNat_ofNat']; omega⟩
  have h2 : -9223372036854775808 ≤ i ∧ i ≤ 9223372036854775807 := by simp [Lit.wf, IntKind.min, IntKind.max, IntKind.signed, IntKind.bits] at hi; omega
  by_cases hn : n = 0
  · subst hn
    exact tells_none a0 ca x i u w hx
  · cases hu : ((u.toNat : Int) == 0)
    · exact tells_other a0 n ca x i u w hx hnx h2.1 h2.2 (by omega) hu
    · exact tells_same a0 n ca x i u w hx hnx h2.1 h2.2 (by omega) hu
end Go.Proofs.Ytgiejdmbnilfaaa
