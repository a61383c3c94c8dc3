/- Contracts and lemmas, merged: Xq, Xqb, Xqc. Their conditions stand in each. -/
import Derived.Test.YtmainjpffaebfaaGA
import Derived.Test.YtmainjpffaebfaaGB
import Derived.Test.YtmainjpffaebfaaGC
import Derived.Test.YtmainjpffaebfaaGD
import Derived.Test.YtmainjpffaebfaaGE
import Derived.Test.YtmainjpffaebfaaGF
import Derived.Test.YtmainjpffaebfaaGG
import Derived.Test.YtmainjpffaebfaaGH
import Derived.Test.YtmainjpffaebfaaGX
import Derived.Test.YtmainjpffaebfaaGXO
import Derived.IntWalk
section
namespace Go.Sha
open Go.RowKit
theorem nb_eq (x j : Nat) (h1 : 1 ≤ j) (h8 : j ≤ 8) (hlt : x < 256 ^ j) (hge : j = 1 ∨ 256 ^ (j - 1) ≤ x) : nb x = j := by
  unfold nb
  obtain rfl | rfl | rfl | rfl | rfl | rfl | rfl | rfl : j = 1 ∨ j = 2 ∨ j = 3 ∨ j = 4 ∨ j = 5 ∨ j = 6 ∨ j = 7 ∨ j = 8 := by omega
  all_goals simp only [Nat.reducePow, Nat.reduceSub] at hlt hge
  all_goals repeat' split
  all_goals omega
theorem Ow.one (w : World) (u : UInt8) (e : Nat) : Ow (w.alloc (.cells #[.int .u8 u.toNat] e)) w.heap.size e (some ⟨w.heap.size, 0, none⟩) 1 [u] :=
  ⟨rfl, .inr ⟨w.heap.size, 1, #[.int .u8 u.toNat], rfl, Nat.le_refl _, Go.heap_alloc_new w _, by simp, by simp [maxLen], by simp, rfl⟩⟩
end Go.Sha
namespace Go.Proofs.Ytmainjpffaebfaa
open Go.ChangeShapes Go.WideShapes Go.ChangeAt Go.RowKit Go.Sha
/-- what a round of leftEncode finds -/
def LeRel (w : World) (x : Nat) (nv out : Value) (wr : World) : Prop :=
  ∃ j a c, 1 ≤ j ∧ j ≤ 8 ∧ nv = .int .i64 ((x / 256 ^ j : Nat) : Int) ∧ out = .slice a j c ∧ Ow wr w.heap.size 5 a c (be x j) ∧ Fr [] w wr ∧ (j = 1 ∨ 256 ^ (j - 1) ≤ x)
set_option maxRecDepth 100000 in
set_option maxHeartbeats 800000 in
theorem specLeft_any (x : Nat) (hx : x < 1152921504606846976) (w : World) : Calls Try.prog 89 #[.int .i64 (x : Int)] w (RetO 5 (lenc x) w) := by
  obtain ⟨i0, hi, hz0, hz1, hz2⟩ := info_parts info5
  obtain ⟨u, hu⟩ : ∃ u : UInt8, u = UInt8.ofNat x := ⟨_, rfl⟩
  have hu2 : (x : Int) % 256 = (u.toNat : Int) := by rw [hu, UInt8.toNat_ofNat']; omega
  obtain ⟨X1, hX1⟩ : ∃ X1, X1 = x / 256 := ⟨_, rfl⟩
  have d1 : Int.tmod (x : Int) 256 = (u.toNat : Int) := by rw [Int.tmod_eq_emod_of_nonneg (by omega)]; exact hu2
  have d2 : Int.tdiv (x : Int) 256 = (X1 : Int) := by rw [Int.tdiv_eq_ediv_of_nonneg (by omega)]; omega
  have d2' : (x : Int) / 256 = (X1 : Int) := by omega
  have c0 : IntKind.i64.wrap (u.toNat : Int) = (u.toNat : Int) := IntWalk.i64_in _ (by have := u.toNat_lt; omega)
  have c1 : IntKind.u8.wrap (u.toNat : Int) = (u.toNat : Int) := wrap_u8 _ u.toNat_lt
  have c2 : IntKind.i64.wrap (X1 : Int) = (X1 : Int) := IntWalk.i64_in _ (by omega)
  have f1 : Fr [] w (w.alloc (.cells #[.int .u8 u.toNat] 5)) := (Fr.refl _ _).alloc _
  have O1 := Lib.hid (Ow.one w u 5)
  have HU := Lib.hid hu
  have HX1 := Lib.hid hX1
  clear hu hX1
  go_enter Try.func89, Try.ntmps89
  go_wp2_with fail
  clear d1 d2 d2' c0 c1 c2 hu2
  generalize (w.alloc (.cells #[.int .u8 u.toNat] 5)) = w1 at f1 O1 ⊢
  go_loopw [0, 3] (fun nv out wr => LeRel w x nv out wr) (fun nv _ _ => (intOf nv).toNat)
  case atStart =>
    refine ⟨1, _, _, by omega, by omega, by rw [HX1.out, Nat.pow_one], rfl, ?_, f1, .inl rfl⟩
    rw [show be x 1 = [u] by rw [HU.out]; simp [be]]
    exact O1.out
  case round =>
    clear O1 f1
    obtain ⟨j, a, c, h1, h8, rfl, rfl, hO, hf, hge⟩ := hrel
    obtain ⟨N, hN⟩ : ∃ N, N = x / 256 ^ j := ⟨_, rfl⟩
    have hNx : N ≤ x := by rw [hN]; exact Nat.div_le_self _ _
    rw [← hN]
    have HO := Lib.hid hO
    have HN := Lib.hid hN
    have HG := Lib.hid hge
    have HL := Lib.hid (be_length x j)
    clear hO hN hge
    by_cases hp : 0 < N
    · have h256 : 256 ^ j ≤ x := by
        rcases Nat.lt_or_ge x (256 ^ j) with h | h
        · rw [HN.out, Nat.div_eq_of_lt h] at hp
          omega
        · exact h
      have hj7 : j ≤ 7 := by
        rcases Nat.lt_or_ge j 8 with h | h
        · omega
        · obtain rfl : j = 8 := by omega
          simp only [Nat.reducePow] at h256
          omega
      obtain ⟨v, hv⟩ : ∃ v : UInt8, v = UInt8.ofNat N := ⟨_, rfl⟩
      have hv2 : (N : Int) % 256 = (v.toNat : Int) := by rw [hv, UInt8.toNat_ofNat']; omega
      obtain ⟨M, hM⟩ : ∃ M, M = N / 256 := ⟨_, rfl⟩
      have t1 : decide ((0 : Int) < (N : Int)) = true := by simp; omega
      have t1' : (0 : Int) < (N : Int) := by omega
      have d1 : Int.tmod (N : Int) 256 = (v.toNat : Int) := by rw [Int.tmod_eq_emod_of_nonneg (by omega)]; exact hv2
      have d2 : Int.tdiv (N : Int) 256 = (M : Int) := by rw [Int.tdiv_eq_ediv_of_nonneg (by omega)]; omega
      have d2' : (N : Int) / 256 = (M : Int) := by omega
      have c0 : IntKind.i64.wrap (v.toNat : Int) = (v.toNat : Int) := IntWalk.i64_in _ (by have := v.toNat_lt; omega)
      have c1 : IntKind.u8.wrap (v.toNat : Int) = (v.toNat : Int) := wrap_u8 _ v.toNat_lt
      have c2 : IntKind.i64.wrap (M : Int) = (M : Int) := IntWalk.i64_in _ (by omega)
      have f2 : Fr [] wr (wr.alloc (.cells #[.int .u8 v.toNat] 5)) := (Fr.refl _ _).alloc _
      have O2 : Hid (Ow (wr.alloc (.cells #[.int .u8 v.toNat] 5)) w.heap.size 5 (some ⟨wr.heap.size, 0, none⟩) 1 [v]) := (Ow.one wr v 5).mono hf.size
      have S2 : Hid (Sl (wr.alloc (.cells #[.int .u8 v.toNat] 5)) a j c (be x j)) := (HO.out.sl_at HL.out).keep0 f2
      have X3 : Hid (w.heap.size ≤ (wr.alloc (.cells #[.int .u8 v.toNat] 5)).heap.size) := Nat.le_trans hf.size f2.size
      have HV := Lib.hid hv
      have HM := Lib.hid hM
      clear hv hM
      go_wp2_with (at_builtin; refine wpList_append_src _ rfl _ _ 22 22 rfl w.heap.size 5 i0 (.int .u8 0) 1 1 Try.underlying22 hi hz0 hz1 hz2 rfl _ 1 1 ([v].map bv) rfl (Ow.row' O2.out rfl) _ j ((be x j).map bv) rfl (S2.out.src Try.underlying22) (by unfold maxLen; omega) (by omega) X3.out ?_)
      intro a3 c3 w3 ho hg
      have hge2 := O2.out.own_ge (n := 1)
      have F3 : Fr [] w w3 := (hf.trans f2).grown hg (fun k hk => .inl (hge2 k (by rw [hk]; simp)))
      have O3 : Ow w3 w.heap.size 5 a3 c3 (v :: be x j) := Ow.of ho (by simp [be_length]; omega) (by simp)
      have H3 := Lib.hid O3
      clear ho hg O3 O2 S2 X3
      go_wp2_with fail
      refine ⟨⟨j + 1, a3, c3, by omega, by omega, ?_, ?_, ?_, F3, .inr (by rw [Nat.add_sub_cancel]; exact h256)⟩, ?_⟩
      · rw [HM.out, HN.out, Nat.div_div_eq_div_mul, ← Nat.pow_succ]
      · rw [Nat.add_comm]
      · rw [show be x (j + 1) = v :: be x j by rw [HV.out, HN.out]; rfl]
        exact H3.out
      · simp [intOf]
        omega
    · obtain rfl : N = 0 := by omega
      have hlt : x < 256 ^ j := by
        rcases Nat.lt_or_ge x (256 ^ j) with h | h
        · exact h
        · have := Nat.div_pos h (Nat.pow_pos (by decide))
          have := HN.out
          omega
      have hnb := nb_eq x j h1 h8 hlt HG.out
      obtain ⟨v, hv⟩ : ∃ v : UInt8, v = UInt8.ofNat j := ⟨_, rfl⟩
      have c1 : IntKind.u8.wrap (j : Int) = (v.toNat : Int) := by rw [wrap_u8 j (by omega), hv, UInt8.toNat_ofNat']; omega
      have f2 : Fr [] wr (wr.alloc (.cells #[.int .u8 v.toNat] 5)) := (Fr.refl _ _).alloc _
      have O2 : Hid (Ow (wr.alloc (.cells #[.int .u8 v.toNat] 5)) w.heap.size 5 (some ⟨wr.heap.size, 0, none⟩) 1 [v]) := (Ow.one wr v 5).mono hf.size
      have S2 : Hid (Sl (wr.alloc (.cells #[.int .u8 v.toNat] 5)) a j c (be x j)) := (HO.out.sl_at HL.out).keep0 f2
      have X3 : Hid (w.heap.size ≤ (wr.alloc (.cells #[.int .u8 v.toNat] 5)).heap.size) := Nat.le_trans hf.size f2.size
      have HV := Lib.hid (And.intro hv hnb)
      clear hv hnb
      go_wp2_with (at_builtin; refine wpList_append_src _ rfl _ _ 22 22 rfl w.heap.size 5 i0 (.int .u8 0) 1 1 Try.underlying22 hi hz0 hz1 hz2 rfl _ 1 1 ([v].map bv) rfl (Ow.row' O2.out rfl) _ j ((be x j).map bv) rfl (S2.out.src Try.underlying22) (by unfold maxLen; omega) (by omega) X3.out ?_)
      intro a3 c3 w3 ho hg
      have hge2 := O2.out.own_ge (n := 1)
      have F3 : Fr [] w w3 := (hf.trans f2).grown hg (fun k hk => .inl (hge2 k (by rw [hk]; simp)))
      have e3 : v :: be x j = lenc x := by rw [lenc, HV.out.2, HV.out.1]
      have O3 : Ow w3 w.heap.size 5 a3 c3 (lenc x) := Ow.of ho (by rw [lenc_length, HV.out.2]; omega) (by rw [← e3]; simp)
      have H3 := Lib.hid O3
      clear ho hg O3 O2 S2 X3
      go_wp2_with fail
      go_ret
      exact ⟨a3, c3, by rw [lenc_length, HV.out.2, Nat.add_comm]; rfl, H3.out, F3⟩
end Go.Proofs.Ytmainjpffaebfaa
end

section
namespace Go.Sha
theorem pad_more (r L k : Nat) (hr : r = 168 ∨ r = 136) (hk : k ≤ (r - L % r) % r) (h : (L + k) % r ≠ 0) : k < (r - L % r) % r := by
  obtain rfl | rfl := hr <;> omega
theorem pad_done (r L k : Nat) (hr : r = 168 ∨ r = 136) (hk : k ≤ (r - L % r) % r) (h : (L + k) % r = 0) : k = (r - L % r) % r := by
  obtain rfl | rfl := hr <;> omega
end Go.Sha
namespace Go.Proofs.Ytmainjpffaebfaa
open Go.ChangeShapes Go.WideShapes Go.ChangeAt Go.RowKit Go.Sha
set_option maxRecDepth 100000 in
set_option maxHeartbeats 800000 in
theorem encodeString_any (ad : Option Addr) (nd cd : Nat) (s : Bs) (w : World) (hS : Sl w ad nd cd s) (hn : nd + 16 ≤ 140737488355328) :
    Calls Try.prog 55 #[.slice ad nd cd] w (RetO 5 (encS s) w) := by
  obtain ⟨i0, hi, hz0, hz1, hz2⟩ := info_parts info5
  have hlen := hS.len
  have g1 : IntKind.i64.wrap (8 * (nd : Int)) = 8 * (nd : Int) := IntWalk.i64_in _ (by omega)
  have HS := Lib.hid hS
  have HC : Hid (Calls Try.prog 89 #[.int .i64 (8 * (nd : Int))] w (RetO 5 (lenc (8 * nd)) w)) := by
    have := specLeft_any (8 * nd) (by omega) w
    rwa [show ((8 * nd : Nat) : Int) = 8 * (nd : Int) by omega] at this
  clear hS
  go_enter Try.func55, Try.ntmps55
  go_wp2_with fail
  refine (HC.out).mono ?_
  rintro e w1 ⟨a1, c1, rfl, o1, f1⟩
  obtain ⟨n1, hn1⟩ : ∃ n1, (lenc (8 * nd)).length = n1 := ⟨_, rfl⟩
  have hn1b : n1 ≤ 9 := by rw [← hn1, lenc_length]; have := nb_le (8 * nd); omega
  rw [hn1]
  have HN := Lib.hid hn1
  have HO := Lib.hid o1
  have S1 := Lib.hid (HS.out.keep0 f1)
  have X3 := Lib.hid f1.size
  clear o1 hn1 HC g1
  go_wp2_with (at_builtin; refine wpList_append_src _ rfl _ _ 22 22 rfl w.heap.size 5 i0 (.int .u8 0) 1 1 Try.underlying22 hi hz0 hz1 hz2 rfl a1 n1 c1 ((lenc (8 * nd)).map bv) rfl (Ow.row' HO.out HN.out) _ nd (s.map bv) rfl (S1.out.src Try.underlying22) (by unfold maxLen; omega) (by omega) X3.out ?_)
  intro a2 c2 w2 ho hg
  have F2 : Fr [] w w2 := f1.grown hg (fun q hq => .inl (HO.out.own_ge (n := n1) q (by rw [hq]; simp)))
  have O2 : Ow w2 w.heap.size 5 a2 c2 (encS s) := Ow.of ho (by rw [encS, List.length_append, hlen, HN.out]) (by rw [encS, List.map_append, hlen])
  have H2 := Lib.hid O2
  clear ho hg O2 HO S1 X3
  go_wp2_with fail
  go_ret
  exact ⟨a2, c2, by rw [encS, List.length_append, hlen, HN.out]; rfl, H2.out, F2⟩

/-- what a round of bytePad finds -/
def BpRel (w : World) (r : Nat) (x : Bs) (out : Value) (wr : World) : Prop :=
  ∃ k a c, k ≤ (r - (nb r + 1 + x.length) % r) % r ∧ out = .slice a (nb r + 1 + x.length + k) c ∧ Ow wr w.heap.size 5 a c (lenc r ++ x ++ List.replicate k 0) ∧ Fr [] w wr
def lenOf : Value → Nat
  | .slice _ n _ => n
  | _ => 0
set_option maxRecDepth 100000 in
set_option maxHeartbeats 800000 in
theorem bytePad_any (ad : Option Addr) (nd cd : Nat) (x : Bs) (r : Nat) (hr : r = 168 ∨ r = 136) (w : World) (hS : Sl w ad nd cd x) (hn : nd + 400 ≤ 140737488355328) :
    Calls Try.prog 54 #[.slice ad nd cd, .int .i64 (r : Int)] w (RetO 5 (bpad r x) w) := by
  obtain ⟨i0, hi, hz0, hz1, hz2⟩ := info_parts info5
  have hlen := hS.len
  have hr0 : 0 < r ∧ r ≤ 168 := by omega
  have HS := Lib.hid hS
  clear hS
  have rz : ((r : Int) == 0) = false := by rw [beq_eq_false_iff_ne]; omega
  have rz2 : ¬ (r : Int) = 0 := by omega
  go_enter Try.func54, Try.ntmps54
  go_wp2_with fail
  refine (specLeft_any r (by omega) w).mono ?_
  rintro e w1 ⟨a1, c1, rfl, o1, f1⟩
  obtain ⟨n1, hn1⟩ : ∃ n1, (lenc r).length = n1 := ⟨_, rfl⟩
  have hn1e : n1 = nb r + 1 := by rw [← hn1, lenc_length]
  have hn1b : n1 ≤ 9 := by have := nb_le r; omega
  rw [hn1]
  have HN := Lib.hid hn1
  have HO := Lib.hid o1
  have S1 := Lib.hid (HS.out.keep0 f1)
  have X3 := Lib.hid f1.size
  have HE := Lib.hid hn1e
  clear o1 hn1 hn1e
  go_wp2_with (at_builtin; refine wpList_append_src _ rfl _ _ 22 22 rfl w.heap.size 5 i0 (.int .u8 0) 1 1 Try.underlying22 hi hz0 hz1 hz2 rfl a1 n1 c1 ((lenc r).map bv) rfl (Ow.row' HO.out HN.out) _ nd (x.map bv) rfl (S1.out.src Try.underlying22) (by unfold maxLen; omega) (by omega) X3.out ?_)
  intro a2 c2 w2 ho hg
  have F2 : Fr [] w w2 := f1.grown hg (fun q hq => .inl (HO.out.own_ge (n := n1) q (by rw [hq]; simp)))
  have O2 : Ow w2 w.heap.size 5 a2 c2 (lenc r ++ x) := Ow.of ho (by rw [List.length_append, hlen, HN.out]) (by rw [List.map_append])
  have H2 := Lib.hid O2
  clear ho hg O2 HO S1 X3 f1 HN
  go_wp2_with fail
  go_loopw [5] (fun out wr => BpRel w r x out wr) (fun out _ => nb r + 1 + x.length + (r - (nb r + 1 + x.length) % r) % r - lenOf out)
  case atStart =>
    refine ⟨0, a2, c2, by omega, by rw [HE.out, hlen]; rfl, ?_, F2⟩
    rw [List.replicate_zero, List.append_nil]
    exact H2.out
  case round =>
    clear H2 F2 HS
    obtain ⟨k, a, c, hk, rfl, hO, hf⟩ := hrel
    obtain ⟨L, hL⟩ : ∃ L, L = nb r + 1 + x.length := ⟨_, rfl⟩
    have hLb : L ≤ nd + 9 := by have := HE.out; omega
    rw [← hL] at hk ⊢
    have hkb : (r - L % r) % r < r := Nat.mod_lt _ hr0.1
    obtain ⟨P, hP⟩ : ∃ P, P = (r - L % r) % r := ⟨_, rfl⟩
    rw [← hP] at hk hkb ⊢
    obtain ⟨q, hq⟩ : ∃ q, q = (L + k) % r := ⟨_, rfl⟩
    have hql : q < r := by rw [hq]; exact Nat.mod_lt _ hr0.1
    have s0 : ((L + k : Nat) : Int) = (L : Int) + (k : Int) := by omega
    have s2 : Int.tmod ((L : Int) + (k : Int)) (r : Int) = (q : Int) := by rw [Int.tmod_eq_emod_of_nonneg (by omega), hq]; push_cast; rfl
    have s2' : ((L : Int) + (k : Int)) % (r : Int) = (q : Int) := by rw [hq]; push_cast; rfl
    have s3 : IntKind.i64.wrap (q : Int) = (q : Int) := IntWalk.i64_in _ (by omega)
    have s4 : IntKind.i64.wrap ((L : Int) + (k : Int)) = (L : Int) + (k : Int) := IntWalk.i64_in _ (by omega)
    obtain ⟨B, hB⟩ : ∃ B, B = lenc r ++ x ++ List.replicate k 0 := ⟨_, rfl⟩
    have hBl : B.length = L + k := by rw [hB, List.length_append, List.length_append, lenc_length, List.length_replicate, hL]
    rw [← hB] at hO
    have HO := Lib.hid hO
    have HB := Lib.hid hB
    have HQ := Lib.hid hq
    have HP := Lib.hid hP
    have HL := Lib.hid hL
    have HN := Lib.hid hBl
    clear hO hB hq hP hL hBl
    by_cases hz : q = 0
    · have hkP : Hid (k = P) := by show k = P; rw [HP.out]; exact pad_done r L k hr (by rw [← HP.out]; exact hk) (by rw [← HQ.out]; exact hz)
      subst hz
      go_wp2_with fail
      go_ret
      have eb : B = bpad r x := by rw [HB.out, bpad, ← HL.out, ← HP.out, hkP.out]
      refine ⟨a, c, ?_, ?_, hf⟩
      · rw [← eb, HN.out]; rfl
      · rw [← eb]; exact HO.out
    · have hkP : k < P := by rw [HP.out]; exact pad_more r L k hr (by rw [← HP.out]; exact hk) (by rw [← HQ.out]; exact hz)
      have q1 : ((q : Int) == 0) = false := by rw [beq_eq_false_iff_ne]; omega
      have q2 : ¬ (q : Int) = 0 := by omega
      have f2 : Fr [] wr (wr.alloc (.cells #[.int .u8 0] 5)) := (Fr.refl _ _).alloc _
      have S2 := Lib.hid (Ow.one wr 0 5).sl
      have O2 : Hid (Ow (wr.alloc (.cells #[.int .u8 0] 5)) w.heap.size 5 a c B) := HO.out.keep0 f2
      have X3 : Hid (w.heap.size ≤ (wr.alloc (.cells #[.int .u8 0] 5)).heap.size) := Nat.le_trans hf.size f2.size
      go_wp2_with (at_builtin; refine wpList_append_src _ rfl _ _ 22 22 rfl w.heap.size 5 i0 (.int .u8 0) 1 1 Try.underlying22 hi hz0 hz1 hz2 rfl a (L + k) c (B.map bv) rfl (Ow.row' O2.out HN.out) _ 1 ([0].map bv) rfl (S2.out.src Try.underlying22) (by unfold maxLen; omega) (by omega) X3.out ?_)
      intro a3 c3 w3 ho hg
      have F3 : Fr [] w w3 := (hf.trans f2).grown hg (fun q hq => .inl (O2.out.own_ge (n := L + k) q (by rw [hq]; simp)))
      have O3 : Ow w3 w.heap.size 5 a3 c3 (B ++ [0]) := Ow.of ho (by rw [List.length_append, HN.out]; rfl) (by rw [List.map_append]; rfl)
      have H3 := Lib.hid O3
      clear ho hg O3 O2 S2 X3
      go_wp2_with fail
      refine ⟨⟨k + 1, a3, c3, ?_, ?_, ?_, F3⟩, ?_⟩
      · rw [← HL.out, ← HP.out]; omega
      · rw [← HL.out]; rfl
      · rw [List.replicate_succ', ← List.append_assoc, ← HB.out]; exact H3.out
      · simp only [lenOf]; omega
end Go.Proofs.Ytmainjpffaebfaa
end

section
namespace Go.Sha
/-- what the reference's CShake returns -/
def csh (r o : Nat) (name custom data : Bs) (L : Nat) : Bs := if name.length = 0 ∧ custom.length = 0 then xof r o 31 data L else xof r o 4 (bpad r (iniOf name custom) ++ data) L
theorem xOut_new (p : XP) (l : Bs) (m : Nat) : xOut p ⟨l, none⟩ m = xof p.r p.o p.ds l m := by simp [xOut, XS.pos]
theorem xOut_drop (p : XP) (l : Bs) (m n M : Nat) (h : M = m + n) : xOut p (XS.read ⟨l, none⟩ m) n = (xof p.r p.o p.ds l M).drop m := by subst h; simp [xOut, XS.read, XS.pos]
theorem csh_nil {r o L : Nat} {name custom data : Bs} (h1 : name.length = 0) (h2 : custom.length = 0) : csh r o name custom data L = xof r o 31 data L := if_pos ⟨h1, h2⟩
theorem csh_some {r o L : Nat} {name custom data : Bs} (h : ¬ (name.length = 0 ∧ custom.length = 0)) : csh r o name custom data L = xof r o 4 (bpad r (iniOf name custom) ++ data) L := if_neg h
end Go.Sha
namespace Go.Proofs.Ytmainjpffaebfaa
open Go.ChangeShapes Go.WideShapes Go.ChangeAt Go.RowKit Go.Sha
set_option maxRecDepth 100000 in
set_option maxHeartbeats 1600000 in
theorem cshake_any (ad an ac : Option Addr) (nd cd nn cn ns cc : Nat) (data name custom : Bs) (r o L : Nat) (hr : r = 168 ∨ r = 136) (w : World) (hD : Sl w ad nd cd data) (hA : Sl w an nn cn name) (hC : Sl w ac ns cc custom) (hn : 8 * (nn + ns + nd) + 8000 ≤ 140737488355328) (hL : L ≤ 1099511627776) :
    Calls Try.prog 32 #[.slice ad nd cd, .slice an nn cn, .slice ac ns cc, .int .i64 (r : Int), .int .i64 (L : Int)] w (RetO 5 (csh r o name custom data L) w) := by
  obtain ⟨i0, hi, hz0, hz1, hz2⟩ := info_parts info5
  have hr0 : 0 < r ∧ r ≤ 168 := by omega
  have HD := Lib.hid hD
  have HA := Lib.hid hA
  have HC := Lib.hid hC
  clear hD hA hC
  by_cases hz : nn = 0
  · by_cases hy : ns = 0
    · subst hz hy
      rw [csh_nil HA.out.len HC.out.len]
      go_enter Try.func32, Try.ntmps32
      go_wp2_with fail
      refine (shake_any ad nd cd data r o L w HD.out hr0.1 hr0.2 (by omega) hL).mono ?_
      rintro e w2 ⟨a2, c2, rfl, O2, f2⟩
      have H2 := Lib.hid O2
      clear O2
      go_wp2_with fail
      go_ret
      exact ⟨a2, c2, rfl, H2.out, f2⟩
    · rw [csh_some (fun h => hy (HC.out.len ▸ h.2))]
      subst hz
      have y1 : ((ns : Int) == 0) = false := by rw [beq_eq_false_iff_ne]; omega
      have y2 : ¬ (ns : Int) = 0 := by omega
      go_enter Try.func32, Try.ntmps32
      go_wp2_with fail
      refine (encodeString_any an 0 cn name w HA.out (by omega)).mono ?_
      rintro e w1 ⟨a1, c1, rfl, o1, f1⟩
      obtain ⟨n1, hn1⟩ : ∃ n1, (encS name).length = n1 := ⟨_, rfl⟩
      have hn1b : n1 ≤ 0 + 9 := by rw [← hn1, encS_length, HA.out.len]; have := nb_le (8 * 0); omega
      rw [hn1]
      have HN1 := Lib.hid hn1
      have HO1 := Lib.hid o1
      have SC1 := Lib.hid (HC.out.keep0 f1)
      clear o1 hn1
      go_wp2_with fail
      refine (encodeString_any ac ns cc custom w1 SC1.out (by omega)).mono ?_
      rintro e w2 ⟨a2, c2, rfl, o2, f2⟩
      obtain ⟨n2, hn2⟩ : ∃ n2, (encS custom).length = n2 := ⟨_, rfl⟩
      have hn2b : n2 ≤ ns + 9 := by rw [← hn2, encS_length, HC.out.len]; have := nb_le (8 * ns); omega
      rw [hn2]
      have HN2 := Lib.hid hn2
      have S2 := Lib.hid (o2.sl_at hn2)
      have HO2 : Hid (Ow w2 w.heap.size 5 a1 c1 (encS name)) := HO1.out.keep0 f2
      have F2 := f1.trans f2
      have X2 := Lib.hid F2.size
      clear o2 hn2 HO1 SC1
      go_wp2_with (at_builtin; refine wpList_append_src _ rfl _ _ 22 22 rfl w.heap.size 5 i0 (.int .u8 0) 1 1 Try.underlying22 hi hz0 hz1 hz2 rfl a1 n1 c1 ((encS name).map bv) rfl (Ow.row' HO2.out HN1.out) _ n2 ((encS custom).map bv) rfl (S2.out.src Try.underlying22) (by unfold maxLen; omega) (by omega) X2.out ?_)
      intro a3 c3 w3 ho hg
      have F3 : Fr [] w w3 := F2.grown hg (fun q hq => .inl (HO2.out.own_ge (n := n1) q (by rw [hq]; simp)))
      have O3 : Ow w3 w.heap.size 5 a3 c3 (iniOf name custom) := Ow.of ho (by rw [iniOf, List.length_append, HN1.out, HN2.out]) (by rw [iniOf, List.map_append])
      have hn3 : (iniOf name custom).length = n1 + n2 := by rw [iniOf, List.length_append, HN1.out, HN2.out]
      have S3 := Lib.hid (O3.sl_at hn3)
      have HN3 := Lib.hid hn3
      clear ho hg O3 HO2 S2 X2 f1 f2 F2 hn3 HN1 HN2
      go_wp2_with fail
      refine (bytePad_any a3 (n1 + n2) c3 (iniOf name custom) r hr w3 S3.out (by omega)).mono ?_
      rintro e w4 ⟨a4, c4, rfl, o4, f4⟩
      obtain ⟨n4, hn4⟩ : ∃ n4, (bpad r (iniOf name custom)).length = n4 := ⟨_, rfl⟩
      have hn4b : n4 ≤ 0 + ns + 200 := by
        rw [← hn4, bpad, List.length_append, List.length_append, List.length_replicate, lenc_length, HN3.out]
        have := nb_le r
        have := Nat.mod_lt (r - (nb r + 1 + (n1 + n2)) % r) hr0.1
        omega
      rw [hn4]
      have HN4 := Lib.hid hn4
      have HO4 : Hid (Ow w4 w.heap.size 5 a4 c4 (bpad r (iniOf name custom))) := o4.mono F3.size
      have F4 := F3.trans f4
      have SD4 := Lib.hid (HD.out.keep0 F4)
      have X4 := Lib.hid F4.size
      clear o4 hn4 f4 F3 S3
      go_wp2_with (at_builtin; refine wpList_append_src _ rfl _ _ 22 22 rfl w.heap.size 5 i0 (.int .u8 0) 1 1 Try.underlying22 hi hz0 hz1 hz2 rfl a4 n4 c4 ((bpad r (iniOf name custom)).map bv) rfl (Ow.row' HO4.out HN4.out) _ nd (data.map bv) rfl (SD4.out.src Try.underlying22) (by unfold maxLen; omega) (by omega) X4.out ?_)
      intro a5 c5 w5 ho hg
      have F5 : Fr [] w w5 := F4.grown hg (fun q hq => .inl (HO4.out.own_ge (n := n4) q (by rw [hq]; simp)))
      have hn5 : (bpad r (iniOf name custom) ++ data).length = n4 + nd := by rw [List.length_append, HN4.out, HD.out.len]
      have O5 : Ow w5 w.heap.size 5 a5 c5 (bpad r (iniOf name custom) ++ data) := Ow.of ho hn5.symm (by rw [List.map_append])
      have S5 := Lib.hid (O5.sl_at hn5)
      clear ho hg O5 HO4 SD4 X4 F4 hn5
      go_wp2_with fail
      have f6 : Fr [] w5 (w5.alloc (.cells #[.bool false, .bool false] 4)) := (Fr.refl _ _).alloc _
      have T6 := Lib.hid (SlB.of_cells (l := [false, false]) (Go.heap_alloc_new w5 (.cells #[.bool false, .bool false] 4)) (by decide))
      have S6 := Lib.hid (S5.out.keep0 f6)
      refine (squeezed_any _ _ _ (bpad r (iniOf name custom) ++ data) _ 2 2 [false, false] 4 r o L _ S6.out T6.out dom_cshake hr0.1 hr0.2 (by omega) hL).mono ?_
      rintro e w7 ⟨a7, c7, rfl, O7, f7⟩
      have H7 := Lib.hid O7
      clear O7 S5 S6 T6
      go_wp2_with fail
      go_ret
      exact ⟨a7, c7, rfl, H7.out.mono (Nat.le_trans F5.size f6.size), (F5.trans f6).trans f7⟩
  · rw [csh_some (fun h => hz (HA.out.len ▸ h.1))]
    have z1 : ((nn : Int) == 0) = false := by rw [beq_eq_false_iff_ne]; omega
    have z2 : ¬ (nn : Int) = 0 := by omega
    go_enter Try.func32, Try.ntmps32
    go_wp2_with fail
    refine (encodeString_any an nn cn name w HA.out (by omega)).mono ?_
    rintro e w1 ⟨a1, c1, rfl, o1, f1⟩
    obtain ⟨n1, hn1⟩ : ∃ n1, (encS name).length = n1 := ⟨_, rfl⟩
    have hn1b : n1 ≤ nn + 9 := by rw [← hn1, encS_length, HA.out.len]; have := nb_le (8 * nn); omega
    rw [hn1]
    have HN1 := Lib.hid hn1
    have HO1 := Lib.hid o1
    have SC1 := Lib.hid (HC.out.keep0 f1)
    clear o1 hn1
    go_wp2_with fail
    refine (encodeString_any ac ns cc custom w1 SC1.out (by omega)).mono ?_
    rintro e w2 ⟨a2, c2, rfl, o2, f2⟩
    obtain ⟨n2, hn2⟩ : ∃ n2, (encS custom).length = n2 := ⟨_, rfl⟩
    have hn2b : n2 ≤ ns + 9 := by rw [← hn2, encS_length, HC.out.len]; have := nb_le (8 * ns); omega
    rw [hn2]
    have HN2 := Lib.hid hn2
    have S2 := Lib.hid (o2.sl_at hn2)
    have HO2 : Hid (Ow w2 w.heap.size 5 a1 c1 (encS name)) := HO1.out.keep0 f2
    have F2 := f1.trans f2
    have X2 := Lib.hid F2.size
    clear o2 hn2 HO1 SC1
    go_wp2_with (at_builtin; refine wpList_append_src _ rfl _ _ 22 22 rfl w.heap.size 5 i0 (.int .u8 0) 1 1 Try.underlying22 hi hz0 hz1 hz2 rfl a1 n1 c1 ((encS name).map bv) rfl (Ow.row' HO2.out HN1.out) _ n2 ((encS custom).map bv) rfl (S2.out.src Try.underlying22) (by unfold maxLen; omega) (by omega) X2.out ?_)
    intro a3 c3 w3 ho hg
    have F3 : Fr [] w w3 := F2.grown hg (fun q hq => .inl (HO2.out.own_ge (n := n1) q (by rw [hq]; simp)))
    have O3 : Ow w3 w.heap.size 5 a3 c3 (iniOf name custom) := Ow.of ho (by rw [iniOf, List.length_append, HN1.out, HN2.out]) (by rw [iniOf, List.map_append])
    have hn3 : (iniOf name custom).length = n1 + n2 := by rw [iniOf, List.length_append, HN1.out, HN2.out]
    have S3 := Lib.hid (O3.sl_at hn3)
    have HN3 := Lib.hid hn3
    clear ho hg O3 HO2 S2 X2 f1 f2 F2 hn3 HN1 HN2
    go_wp2_with fail
    refine (bytePad_any a3 (n1 + n2) c3 (iniOf name custom) r hr w3 S3.out (by omega)).mono ?_
    rintro e w4 ⟨a4, c4, rfl, o4, f4⟩
    obtain ⟨n4, hn4⟩ : ∃ n4, (bpad r (iniOf name custom)).length = n4 := ⟨_, rfl⟩
    have hn4b : n4 ≤ nn + ns + 200 := by
      rw [← hn4, bpad, List.length_append, List.length_append, List.length_replicate, lenc_length, HN3.out]
      have := nb_le r
      have := Nat.mod_lt (r - (nb r + 1 + (n1 + n2)) % r) hr0.1
      omega
    rw [hn4]
    have HN4 := Lib.hid hn4
    have HO4 : Hid (Ow w4 w.heap.size 5 a4 c4 (bpad r (iniOf name custom))) := o4.mono F3.size
    have F4 := F3.trans f4
    have SD4 := Lib.hid (HD.out.keep0 F4)
    have X4 := Lib.hid F4.size
    clear o4 hn4 f4 F3 S3
    go_wp2_with (at_builtin; refine wpList_append_src _ rfl _ _ 22 22 rfl w.heap.size 5 i0 (.int .u8 0) 1 1 Try.underlying22 hi hz0 hz1 hz2 rfl a4 n4 c4 ((bpad r (iniOf name custom)).map bv) rfl (Ow.row' HO4.out HN4.out) _ nd (data.map bv) rfl (SD4.out.src Try.underlying22) (by unfold maxLen; omega) (by omega) X4.out ?_)
    intro a5 c5 w5 ho hg
    have F5 : Fr [] w w5 := F4.grown hg (fun q hq => .inl (HO4.out.own_ge (n := n4) q (by rw [hq]; simp)))
    have hn5 : (bpad r (iniOf name custom) ++ data).length = n4 + nd := by rw [List.length_append, HN4.out, HD.out.len]
    have O5 : Ow w5 w.heap.size 5 a5 c5 (bpad r (iniOf name custom) ++ data) := Ow.of ho hn5.symm (by rw [List.map_append])
    have S5 := Lib.hid (O5.sl_at hn5)
    clear ho hg O5 HO4 SD4 X4 F4 hn5
    go_wp2_with fail
    have f6 : Fr [] w5 (w5.alloc (.cells #[.bool false, .bool false] 4)) := (Fr.refl _ _).alloc _
    have T6 := Lib.hid (SlB.of_cells (l := [false, false]) (Go.heap_alloc_new w5 (.cells #[.bool false, .bool false] 4)) (by decide))
    have S6 := Lib.hid (S5.out.keep0 f6)
    refine (squeezed_any _ _ _ (bpad r (iniOf name custom) ++ data) _ 2 2 [false, false] 4 r o L _ S6.out T6.out dom_cshake hr0.1 hr0.2 (by omega) hL).mono ?_
    rintro e w7 ⟨a7, c7, rfl, O7, f7⟩
    have H7 := Lib.hid O7
    clear O7 S5 S6 T6
    go_wp2_with fail
    go_ret
    exact ⟨a7, c7, rfl, H7.out.mono (Nat.le_trans F5.size f6.size), (F5.trans f6).trans f7⟩

theorem xpOf_out (k : Nat) (hk : k < 5) (name custom data : Bs) (L : Nat) : xof (xpOf k name custom).r (xpOf k name custom).o (xpOf k name custom).ds ((xpOf k name custom).hd ++ data) L = if k < 3 then xof (xR k) (xpOf k name custom).o 31 data L else csh (xR k) (xpOf k name custom).o name custom data L := by
  unfold csh xpOf xR
  obtain rfl | rfl | rfl | rfl | rfl : k = 0 ∨ k = 1 ∨ k = 2 ∨ k = 3 ∨ k = 4 := by omega
  · rfl
  · rfl
  · rfl
  · simp only [reduceIte, Nat.reduceEqDiff, Nat.reduceLT, or_self]
    split <;> rfl
  · simp only [reduceIte, Nat.reduceEqDiff, Nat.reduceLT, or_self]
    split <;> rfl
theorem xR_in (k : Nat) (hk : k < 5) : xR k = 168 ∨ xR k = 136 := by
  obtain rfl | rfl | rfl | rfl | rfl : k = 0 ∨ k = 1 ∨ k = 2 ∨ k = 3 ∨ k = 4 := by omega
  all_goals decide
set_option maxRecDepth 100000 in
set_option maxHeartbeats 1600000 in
theorem xofOutput_any (kind : Int) (ad an ac : Option Addr) (nd cd nn cn ns cc : Nat) (data name custom : Bs) (L : Nat) (p : XP) (hp : p = xpOf (k5 kind) name custom) (w : World) (hD : Sl w ad nd cd data) (hA : Sl w an nn cn name) (hC : Sl w ac ns cc custom) (hn : 8 * (nn + ns + nd) + 8000 ≤ 140737488355328) (hL : L ≤ 1099511627776) :
    Calls Try.prog 16 #[.int .i64 kind, .slice an nn cn, .slice ac ns cc, .slice ad nd cd, .int .i64 (L : Int)] w (RetO 5 (xof p.r p.o p.ds (p.hd ++ data) L) w) := by
  have hl := k5_lt kind
  have HK := Lib.hid (k5_int kind)
  have E := Lib.hid (xpOf_out (k5 kind) hl name custom data L)
  rw [hp, E.out, ← hp]
  obtain ⟨o, ho⟩ : ∃ o, o = p.o := ⟨_, rfl⟩
  rw [← ho]
  have HB := Lib.hid (fun w => xofBlock_any kind w)
  have HI := Lib.hid (xR_in (k5 kind) hl)
  obtain ⟨k, hkk⟩ : ∃ k, k = k5 kind := ⟨_, rfl⟩
  rw [← hkk] at hl HK HB HI ⊢
  obtain ⟨R, hR⟩ : ∃ R, R = xR k := ⟨_, rfl⟩
  rw [← hR] at HI HB ⊢
  have hr0 : 0 < R ∧ R ≤ 168 := by have := HI.out; omega
  have HD := Lib.hid hD
  have HA := Lib.hid hA
  have HC := Lib.hid hC
  clear hD hA hC hR hkk ho hp E
  by_cases h3 : k < 3
  · rw [if_pos h3]
    have t1 : (k : Int) < 3 := by omega
    go_enter Try.func16, Try.ntmps16
    go_wp2_with fail
    refine (mod_nat kind 5 k w (by decide) (by decide) HK.out).mono ?_
    rintro e w0 ⟨rfl, rfl⟩
    go_wp2_with fail
    refine (HB.out w0).mono ?_
    rintro e w1 ⟨rfl, f1⟩
    have SD := Lib.hid (HD.out.keep0 f1)
    go_wp2_with fail
    refine (shake_any ad nd cd data R o L w1 SD.out hr0.1 hr0.2 (by omega) hL).mono ?_
    rintro e w2 ⟨a2, c2, rfl, O2, f2⟩
    have H2 := Lib.hid O2
    clear O2
    go_wp2_with fail
    go_ret
    exact ⟨a2, c2, rfl, H2.out.mono f1.size, f1.trans f2⟩
  · rw [if_neg h3]
    have t1 : ¬ (k : Int) < 3 := by omega
    go_enter Try.func16, Try.ntmps16
    go_wp2_with fail
    refine (mod_nat kind 5 k w (by decide) (by decide) HK.out).mono ?_
    rintro e w0 ⟨rfl, rfl⟩
    go_wp2_with fail
    refine (HB.out w0).mono ?_
    rintro e w1 ⟨rfl, f1⟩
    have SD := Lib.hid (HD.out.keep0 f1)
    have SA := Lib.hid (HA.out.keep0 f1)
    have SC := Lib.hid (HC.out.keep0 f1)
    go_wp2_with fail
    refine (cshake_any ad an ac nd cd nn cn ns cc data name custom R o L HI.out w1 SD.out SA.out SC.out hn hL).mono ?_
    rintro e w2 ⟨a2, c2, rfl, O2, f2⟩
    have H2 := Lib.hid O2
    clear O2
    go_wp2_with fail
    go_ret
    exact ⟨a2, c2, rfl, H2.out.mono f1.size, f1.trans f2⟩
end Go.Proofs.Ytmainjpffaebfaa
end
