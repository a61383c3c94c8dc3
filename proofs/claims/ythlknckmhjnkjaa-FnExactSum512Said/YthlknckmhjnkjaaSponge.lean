/- sponge of the reference. Lengths that a machine's addresses can tell apart. -/
import Derived.Test.YthlknckmhjnkjaaPadded
import Derived.Test.YthlknckmhjnkjaaPermB
namespace Go.Sha
open Go.RowKit
/-- k bits of p, from the place i on, laid over the first bits of s -/
def xorK (s p : Bits) (i : Nat) : Nat → Bits
  | 0 => s
  | k + 1 => (xorK s p i k).set k ((xorK s p i k).getD k false != p.getD (i + k) false)
theorem xorK_length (s p : Bits) (i k : Nat) : (xorK s p i k).length = s.length := by
  induction k with
  | zero => rfl
  | succ k ih => simp [xorK, ih]
/-- m blocks absorbed -/
def absB (p : Bits) (rate : Nat) : Nat → Bits
  | 0 => List.replicate 1600 false
  | m + 1 => permB (xorK (absB p rate m) p (m * rate) rate)
theorem absB_length (p : Bits) (rate m : Nat) : (absB p rate m).length = 1600 := by
  cases m with
  | zero => exact List.length_replicate
  | succ m => simp [absB, permB_length]
def sqB (s : Bits) : Nat → Bits
  | 0 => s
  | k + 1 => permB (sqB s k)
theorem sqB_length (s : Bits) (k : Nat) (h : s.length = 1600) : (sqB s k).length = 1600 := by
  cases k with
  | zero => exact h
  | succ k => exact permB_length _
/-- what has been squeezed, k permutations later -/
def outB (s : Bits) (rate : Nat) : Nat → Bits
  | 0 => s.take rate
  | k + 1 => outB s rate k ++ (sqB s (k + 1)).take rate
theorem outB_length (s : Bits) (rate k : Nat) (h : s.length = 1600) (hr : rate ≤ 1600) : (outB s rate k).length = (k + 1) * rate := by
  induction k with
  | zero => simp [outB, h]; omega
  | succ k ih =>
    simp only [outB, List.length_append, ih, List.length_take, sqB_length s _ h]
    rw [Nat.min_eq_left hr, Nat.succ_mul (k + 1)]
/-- how many permutations it takes -/
def outN (rate many : Nat) : Nat := (many - 1) / rate
def spongeB (l : Bits) (rate many : Nat) : Bits :=
  (outB (absB (padB l rate) rate ((padB l rate).length / rate)) rate (outN rate many)).take many
theorem outN_more {rate many k : Nat} (h0 : 0 < rate) (h : (k + 1) * rate < many) : k + 1 ≤ outN rate many := by
  unfold outN
  rw [Nat.le_div_iff_mul_le h0]
  omega
theorem outN_last {rate many k : Nat} (h0 : 0 < rate) (hk : k ≤ outN rate many) (h : many ≤ (k + 1) * rate) : k = outN rate many := by
  refine Nat.le_antisymm hk ?_
  unfold outN
  by_cases hm : many = 0
  · subst hm; simp
  · have : (many - 1) / rate < k + 1 := by rw [Nat.div_lt_iff_lt_mul h0]; omega
    omega
theorem padB_length (l : Bits) (rate : Nat) : (padB l rate).length = l.length + padZ l.length rate + 2 := by simp [padB]; omega
theorem padB_dvd (l : Bits) (rate : Nat) (h : 0 < rate) : ∃ M, (padB l rate).length = M * rate := by
  have h1 := padZ_int l.length rate h
  have h2 : ((rate : Int)) ∣ (-(l.length : Int) - 2) - (padZ l.length rate : Int) := by rw [← h1]; exact Int.dvd_self_sub_emod
  have h3 : (rate : Int) ∣ (((padB l rate).length : Nat) : Int) := by
    rw [padB_length]
    have e : (((l.length + padZ l.length rate + 2 : Nat)) : Int) = -((-(l.length : Int) - 2) - (padZ l.length rate : Int)) := by push_cast; omega
    rw [e]
    exact Int.dvd_neg.2 h2
  obtain ⟨M, hM⟩ := Int.natCast_dvd_natCast.1 h3
  exact ⟨M, by rw [hM, Nat.mul_comm]⟩
theorem OwB.take {w : World} {base e c k : Nat} {a : Option Addr} {l : Bits} (h : OwB w base e a c l) (hk : k ≤ l.length) : OwB w base e a c (l.take k) := by
  obtain ⟨h1, h2⟩ := h
  refine ⟨by simp, ?_⟩
  have hlk : (l.take k).length = k := by simp; omega
  rcases h2 with ⟨h3, h0⟩ | ⟨g, cap, cur, hv, hb, hg, hn, hm, hs, ht⟩
  · have : k = 0 := by omega
    subst this
    left
    simp only [Value.slice.injEq] at h3 ⊢
    exact ⟨⟨h3.1, by simp, h3.2.2⟩, by simp⟩
  · right
    refine ⟨g, cap, cur, ?_, hb, hg, by omega, hm, hs, ?_⟩
    · simp only [Value.slice.injEq] at hv
      rw [hv.1, hv.2.2]
    · have e : cur.toList.take ((l.take k).length * 1) = (cur.toList.take (l.length * 1)).take k := by
        rw [List.take_take, hlk]
        congr 1
        omega
      rw [e, ht, List.map_take]
theorem OwB.keepAt {S : List Nat} {w w' : World} {base e c g : Nat} {l : Bits} (h : OwB w base e (some ⟨g, 0, none⟩) c l) (hf : Fr S w w') (hs : g ∉ S) : OwB w' base e (some ⟨g, 0, none⟩) c l := by
  obtain ⟨h1, h2⟩ := h
  refine ⟨h1, ?_⟩
  rcases h2 with h2 | ⟨g', cap, cur, hv, hg, hh, r⟩
  · exact .inl h2
  · have e : g = g' := by simp only [Value.slice.injEq, Option.some.injEq, Addr.mk.injEq] at hv; exact hv.1.1
    subst e
    exact .inr ⟨g, cap, cur, hv, hg, hf.obj hh hs, r⟩
end Go.Sha
namespace Go.Proofs.Ythlknckmhjnkjaa
open Go.ChangeShapes Go.WideShapes Go.ChangeAt Go.RowKit Go.Sha
/-- a state that reads as S in block g, beside p -/
structure StAt (w : World) (g : Nat) (S : Bits) (ap : Option Addr) (np cp : Nat) (p : Bits) (wr : World) : Prop where
  own : OwB wr w.heap.size 4 (some ⟨g, 0, none⟩) 1600 S
  len : S.length = 1600
  sl : SlB wr ap np cp p
  ne : ∀ x, ap = some x → np ≠ 0 → x.block ≠ g
  ge : w.heap.size ≤ g
  fr : Fr [] w wr
theorem StAt.drew {w wr : World} {g : Nat} {S : Bits} {ap : Option Addr} {np cp : Nat} {p : Bits} (h : StAt w g S ap np cp p wr) : StAt w g S ap np cp p wr.drew :=
  ⟨h.own, h.len, h.sl.keep0 (Fr.refl _ _).drew, h.ne, h.ge, h.fr.drew⟩
theorem StAt.set {w wr : World} {g : Nat} {S : Bits} {ap : Option Addr} {np cp : Nat} {p : Bits} (h : StAt w g S ap np cp p wr) (k : Nat) (hk : k < 1600) (v : Bool) :
    StAt w g (S.set k v) ap np cp p (wr.setCell ⟨g, k, none⟩ (.bool v)) := by
  refine ⟨h.own.set (by rw [h.len]; exact hk) v, by simp [h.len], h.sl.keep (S := [g]) ((Fr.refl _ _).setCell _ _ (.inr (by simp))) (fun x hx h0 => by simp; exact h.ne x hx h0), h.ne, h.ge, h.fr.setCell _ _ (.inl h.ge)⟩
def SpRel (w : World) (ap : Option Addr) (np cp : Nat) (p : Bits) (rate M : Nat) (s i : Value) (wr : World) : Prop :=
  ∃ m g i', m ≤ M ∧ i' = m * rate ∧ i = .int .i64 ((i' : Nat) : Int) ∧ s = .slice (some ⟨g, 0, none⟩) 1600 1600 ∧ StAt w g (absB p rate m) ap np cp p wr
def SqRel (w : World) (S : Bits) (rate many : Nat) (s out : Value) (wr : World) : Prop :=
  ∃ k g a n c, k ≤ outN rate many ∧ s = .slice (some ⟨g, 0, none⟩) 1600 1600 ∧ OwB wr w.heap.size 4 (some ⟨g, 0, none⟩) 1600 (sqB S k) ∧ out = .slice a n c ∧ n = (k + 1) * rate ∧ OwB wr w.heap.size 4 a c (outB S rate k) ∧ Fr [] w wr

def slLen' : Value → Nat | .slice _ n _ => n | _ => 0
/-- bits of output in a slice of one's own -/
def RetX' (w : World) (L : Nat) (l : Bits) (e : Ending) (w' : World) : Prop := ∃ a c, e = .returned (.slice a L c) ∧ OwB w' w.heap.size 4 a c l ∧ Fr [] w w'
attribute [local irreducible] wpStill
set_option maxRecDepth 100000 in
set_option maxHeartbeats 2000000 in
theorem sponge_any (a0 : Option Addr) (n c : Nat) (l : Bits) (rate many : Nat) (w : World) (h : SlB w a0 n c l) (h0 : 0 < rate) (hr : rate ≤ 1600) (hn : n + 1700 ≤ 140737488355328) (hmany : many ≤ 70368744177664) :
    Calls Try.prog 51 #[.slice a0 n c, .int .i64 (rate : Int), .int .i64 (many : Int)] w (RetX' w many (spongeB l rate many)) := by
  obtain ⟨i0, hi, hz0, hz1, hz2⟩ := info_parts info4
  have hmk := make_bools 1600 1600 rfl (by omega)
  have HS := Lib.hid h
  clear h
  go_enter Try.func51, Try.ntmps51
  go_wp2_with fail
  clear hmk
  have f1 : Fr [] w (w.alloc (.cells (bcells 1600 fun _ => false) 4)) := (Fr.refl _ _).alloc _
  have S1 := HS.out.keep0 f1
  have O1 : OwB (w.alloc (.cells (bcells 1600 fun _ => false) 4)) w.heap.size 4 (some ⟨w.heap.size, 0, none⟩) 1600 (absB (padB l rate) rate 0) := by
    have := OwB.of_bools (base := w.heap.size) (BoolsAt.new w 4 1600 fun _ => false) (Nat.le_refl _) (by simp [maxLen])
    have e : (List.range 1600).map (fun _ => false) = absB (padB l rate) rate 0 := by simp [absB, List.map_const']
    rw [e] at this
    exact this
  have hg1 : w.heap.size < (w.alloc (.cells (bcells 1600 fun _ => false) 4)).heap.size := by simp
  generalize w.alloc (.cells (bcells 1600 fun _ => false) 4) = w1 at f1 S1 O1 hg1 ⊢
  refine (padded_any _ _ _ _ _ _ S1 h0 hr hn).mono ?_
  rintro e w2 ⟨ap, cp, rfl, O2, f2⟩
  obtain ⟨P, hP⟩ : ∃ P, P = padB l rate := ⟨_, rfl⟩
  have hPl : P.length ≤ n + 1602 := by
    have := padZ_lt l.length rate h0
    have := HS.out.len
    rw [hP, padB_length]
    omega
  obtain ⟨M, hM⟩ : ∃ M, P.length = M * rate := by rw [hP]; exact padB_dvd l rate h0
  rw [← hP] at O2 O1 ⊢
  have HP := Lib.hid hP
  clear hP
  obtain ⟨np, hnp⟩ : ∃ np, np = P.length := ⟨_, rfl⟩
  rw [← hnp] at hPl hM ⊢
  have A0 : StAt w w.heap.size (absB P rate 0) ap np cp P w2 := by
    refine ⟨O1.keep0 f2, absB_length _ _ _, by rw [hnp]; exact O2.sl, fun x hx _ => ?_, Nat.le_refl _, f1.trans f2⟩
    subst hx
    have := O2.block.2.2.1
    omega
  have HM := Lib.hid hM
  have HNP := Lib.hid hnp
  clear hM hnp O2 O1 S1 f2 f1 hg1
  have H0 := Lib.hid A0
  clear A0
  go_wp2_with fail
  go_loopw [7, 9] (fun s i wr => SpRel w ap np cp P rate M s i wr) (fun _ i _ => np - (intOf i).toNat)
  case atStart => exact ⟨0, w.heap.size, 0, by omega, by simp, rfl, rfl, H0.out⟩
  case round =>
    clear H0
    obtain ⟨m, g, i, hm, him, rfl, rfl, hA⟩ := hrel
    have HI := Lib.hid him
    have hcp := hA.sl.cap
    have hcm := hA.sl.max
    unfold maxLen at hcm
    by_cases hlt : m < M
    · have hi2 : i + rate ≤ np := by rw [him, HM.out, ← Nat.succ_mul]; exact Nat.mul_le_mul_right _ hlt
      clear him
      have HA := Lib.hid hA
      clear hA
      have hip : i < np := by omega
      have hip2 : decide (i < np) = true := by simp; omega
      go_wp2_with fail
      clear hip2
      go_loopw [10] (fun k wr => InRel (fun k wr => StAt w g (xorK (absB P rate m) P i k) ap np cp P wr) rate (fun X => X) k wr) (fun k _ => rate - (intOf k).toNat)
      case atStart => exact InRel.mk 0 0 (by omega) rfl rfl HA.out
      case round =>
        clear HA
        obtain ⟨k, hk, rfl, hR⟩ := hrel
        by_cases hlt2 : k < rate
        · go_wp2_with fail
          refine wp_region_still_tail 14 (by kernel_rfl) (by kernel_rfl) ?_
          change wpStill Try.prog _ wr.drew (fun a' => wpList Try.prog _ _ _ a' wr.drew) _ _
          have R1 := hR.drew
          clear hR
          generalize wr.drew = w3 at R1 ⊢
          obtain ⟨X, hX⟩ : ∃ X, X = xorK (absB P rate m) P i k := ⟨_, rfl⟩
          rw [← hX] at R1
          have HX := Lib.hid hX
          clear hX
          have q0 := (R1.own.cell (k := k) (by rw [R1.len]; omega)).1
          have q1 := (R1.own.cell (k := k) (by rw [R1.len]; omega)).2
          obtain ⟨b, o, rfl, hcel⟩ := SlB.at' R1.sl (i + k) (by omega)
          have q2 := hcel (i + k) (by omega)
          clear hcel
          obtain ⟨v0, hv0⟩ : ∃ v0, v0 = X.getD k false := ⟨_, rfl⟩
          obtain ⟨v1, hv1⟩ : ∃ v1, v1 = P.getD (i + k) false := ⟨_, rfl⟩
          rw [← hv0] at q0
          rw [← hv1] at q2
          have HV := Lib.hid (And.intro hv0 hv1)
          clear hv0 hv1
          have e1 : IntKind.i64.wrap ((i : Int) + (k : Int)) = (i : Int) + (k : Int) := IntWalk.i64_in _ (by omega)
          have e2 : ((i : Int) + (k : Int)).toNat = i + k := by omega
          have b1 : (i : Int) + (k : Int) < (np : Int) := by omega
          have b2 : (k : Int) < 1600 := by omega
          have b3 : (0 : Int) ≤ (i : Int) + (k : Int) := by omega
          have hlk : k < 1600 := by omega
          simp only [List.take_succ_cons, List.take_zero, List.drop_succ_cons, List.drop_zero]
          repeat still_step
          refine wpStill_nil ?_
          clear e1 e2
          go_wp2_with fail
          refine InRel.succ (R := fun k wr => StAt w g (xorK (absB P rate m) P i k) (some ⟨b, o, none⟩) np cp P wr) (f := fun X => X) hlt2 rfl ?_
          have := R1.set k hlk (!(v0 == v1))
          rw [HX.out] at this
          have e : (xorK (absB P rate m) P i k).set k (!(v0 == v1)) = xorK (absB P rate m) P i (k + 1) := by rw [HV.out.1, HV.out.2, HX.out]; rfl
          rw [e] at this
          exact this
        · obtain rfl : k = rate := by omega
          go_wp2_with fail
          have hR' : StAt w g (xorK (absB P k m) P i k) ap np cp P wr := hR
          refine (permuted_any _ _ _ _ (hR'.own.sl_at (by rw [xorK_length, absB_length]))).mono ?_
          rintro e w4 ⟨g4, rfl, hg4, O4, f4⟩
          have A4 : StAt w g4 (absB P k (m + 1)) ap np cp P w4 := by
            refine ⟨?_, absB_length _ _ _, hR'.sl.keep0 f4, fun x hx hn0 => ?_, Nat.le_trans hR'.fr.size hg4, hR'.fr.trans f4⟩
            · show OwB _ _ _ _ _ (permB _)
              rw [← HI.out]
              exact O4.mono hR'.fr.size
            · have := hR'.sl.lt hx hn0
              omega
          have H4 := Lib.hid A4
          clear A4 hR hR' O4 f4
          go_wp2_with fail
          refine ⟨⟨m + 1, g4, i + k, hlt, by rw [HI.out, Nat.succ_mul], by simp, rfl, H4.out⟩, by simp [intOf]; omega⟩
    · obtain rfl : m = M := by omega
      have hin : i = np := by rw [him, HM.out]
      subst hin
      clear him
      obtain ⟨S, hS⟩ : ∃ S, S = absB P rate m := ⟨_, rfl⟩
      have hSl : S.length = 1600 := by rw [hS, absB_length]
      obtain ⟨hO, _, _, _, hge, hf⟩ := hA
      rw [← hS] at hO
      have HO := Lib.hid hO
      have HSS := Lib.hid hS
      have HSL := Lib.hid hSl
      clear hO hS hSl
      have f1 : Fr [] wr (wr.alloc (.cells #[] 4)) := (Fr.refl _ _).alloc _
      have O1 := Lib.hid (OwB.none0 wr 4 w.heap.size hf.size)
      obtain ⟨ys, hys⟩ : ∃ ys, ys = (S.take rate).map Value.bool := ⟨_, rfl⟩
      have Y0 : Hid (Src Try.prog 1 42 (.slice (some ⟨g, 0, none⟩) rate 1600) rate ys (wr.alloc (.cells #[] 4))) := by
        rw [hys]
        exact (((HO.out.keep0 f1).sl_at HSL.out).take rate hr).src Try.underlying42
      have HYS := Lib.hid hys
      clear hys
      have X1 : Hid (0 + rate ≤ maxLen) := by show _ ≤ _; unfold maxLen; omega
      have X2 : Hid ((0 + rate) * 1 ≤ 140737488355328) := by show _ ≤ _; omega
      have X3 : Hid (w.heap.size ≤ (wr.alloc (.cells #[] 4)).heap.size) := by show _ ≤ _; have := hf.size; simp; omega
      go_wp2_with (at_builtin; refine wpList_append_src _ rfl _ _ 42 42 rfl w.heap.size 4 i0 (.bool false) 1 1 Try.underlying42 hi hz0 hz1 hz2 rfl (some ⟨wr.heap.size, 0, none⟩) 0 0 [] rfl O1.out _ rate ys rfl Y0.out X1.out X2.out X3.out ?_)
      intro a3 c3 w3 ho hg
      have hsz := hf.size
      have hgl := HO.out.block.2.2.2
      simp only at hgl
      have f3 : Fr [wr.heap.size] wr w3 := (f1.mono (by simp)).grown hg (fun q hq => by simp [Value.ownBlock] at hq; subst hq; exact .inr (by simp))
      have F3 : Fr [] w w3 := (hf.trans f1).grown hg (fun q hq => by simp [Value.ownBlock] at hq; omega)
      have O3 : OwB w3 w.heap.size 4 a3 c3 (outB S rate 0) := OwB.of ho (by simp [outB, HSL.out]; omega) (by rw [HYS.out]; rfl)
      have G3 : OwB w3 w.heap.size 4 (some ⟨g, 0, none⟩) 1600 (sqB S 0) := HO.out.keepAt f3 (by simp; omega)
      have HO3 := Lib.hid O3
      have HG3 := Lib.hid G3
      clear O3 G3 ho hg f1 O1 Y0 HYS X1 X2 X3 HO f3 hf
      go_wp2_with fail
      go_loopw [7, 11] (fun s out wr => SqRel w S rate many s out wr) (fun _ out _ => many - slLen' out)
      case atStart => exact ⟨0, g, a3, rate, c3, by omega, rfl, HG3.out, rfl, by omega, HO3.out, F3⟩
      case round =>
        clear HO3 HG3 F3 hgl hsz
        obtain ⟨k, g1, a1, n1, c1, hk, rfl, hG, rfl, hn1, hO, hf⟩ := hrel
        have HG := Lib.hid hG
        have HO := Lib.hid hO
        have HN := Lib.hid hn1
        clear hG hO
        by_cases hlt : n1 < many
        · have hkl : k + 1 ≤ outN rate many := outN_more h0 (by rw [← hn1]; exact hlt)
          clear hn1
          go_wp2_with fail
          refine (permuted_any _ _ _ _ (HG.out.sl_at (sqB_length _ _ HSL.out))).mono ?_
          rintro e w4 ⟨g4, rfl, hg4, O4, f4⟩
          have H4 : Hid (OwB w4 w.heap.size 4 (some ⟨g4, 0, none⟩) 1600 (sqB S (k + 1))) := O4.mono hf.size
          have F4 := hf.trans f4
          obtain ⟨xs, hxs⟩ : ∃ xs, xs = (outB S rate k).map Value.bool := ⟨_, rfl⟩
          have OL : Hid ((outB S rate k).length = n1) := by show _ = _; rw [outB_length S rate k HSL.out hr, ← HN.out]
          have O1 : Hid (w4.ownsRow w.heap.size 4 1 (.slice a1 n1 c1) n1 xs) := by rw [hxs]; exact OwB.row (HO.out.keep0 f4) OL.out
          obtain ⟨ys, hys⟩ : ∃ ys, ys = ((sqB S (k + 1)).take rate).map Value.bool := ⟨_, rfl⟩
          have Y0 : Hid (Src Try.prog 1 42 (.slice (some ⟨g4, 0, none⟩) rate 1600) rate ys w4) := by
            rw [hys]
            exact ((H4.out.sl_at (sqB_length _ _ HSL.out)).take rate hr).src Try.underlying42
          have HXS := Lib.hid (And.intro hxs hys)
          clear hxs hys
          have X1 : Hid (n1 + rate ≤ maxLen) := by show _ ≤ _; unfold maxLen; omega
          have X2 : Hid ((n1 + rate) * 1 ≤ 140737488355328) := by show _ ≤ _; omega
          have X3 : Hid (w.heap.size ≤ w4.heap.size) := F4.size
          have hO1 : ∀ ad, a1 = some ad → w.heap.size ≤ ad.block ∧ ad.block < wr.heap.size := fun ad e => by
            have := HO.out
            rw [e] at this
            exact ⟨this.block.2.2.1, this.block.2.2.2⟩
          have HO1 := Lib.hid hO1
          clear hO1 O4 f4 HG HO
          go_wp2_with (at_builtin; refine wpList_append_src _ rfl _ _ 42 42 rfl w.heap.size 4 i0 (.bool false) 1 1 Try.underlying42 hi hz0 hz1 hz2 rfl a1 n1 c1 xs rfl O1.out _ rate ys rfl Y0.out X1.out X2.out X3.out ?_)
          intro a5 c5 w5 ho hg
          have F5 : Fr [] w w5 := F4.grown hg (fun q hq => by
            cases a1 with
            | none => simp [Value.ownBlock] at hq
            | some ad =>
              have := (HO1.out ad rfl).1
              simp [Value.ownBlock] at hq
              omega)
          have O5 : OwB w5 w.heap.size 4 a5 c5 (outB S rate (k + 1)) := OwB.of ho (by simp only [outB, List.length_append, OL.out, List.length_take, sqB_length _ _ HSL.out]; omega) (by rw [HXS.out.1, HXS.out.2, ← List.map_append]; rfl)
          have G5 : OwB w5 w.heap.size 4 (some ⟨g4, 0, none⟩) 1600 (sqB S (k + 1)) := H4.out.keepAt (S := (Value.slice a1 n1 c1).ownBlock.toList) ((Fr.refl _ _).grown hg (fun q hq => by rw [hq]; exact .inr (by simp))) (fun hq => by
            cases a1 with
            | none => simp [Value.ownBlock] at hq
            | some ad =>
              have := (HO1.out ad rfl).2
              simp [Value.ownBlock] at hq
              omega)
          have H5 := Lib.hid (And.intro O5 G5)
          clear O5 G5 ho hg O1 Y0 X1 X2 X3 H4 HO1
          go_wp2_with fail
          refine ⟨⟨k + 1, g4, a5, n1 + rate, c5, hkl, rfl, H5.out.2, rfl, by rw [HN.out, Nat.succ_mul (k + 1)], H5.out.1, F5⟩, by simp [slLen']; omega⟩
        · have hke : k = outN rate many := outN_last h0 hk (by rw [← hn1]; omega)
          clear hn1
          subst hke
          have OL : Hid ((outB S rate (outN rate many)).length = n1) := by show _ = _; rw [outB_length S rate _ HSL.out hr, ← HN.out]
          have hcc : n1 ≤ c1 := by have := HO.out.sl.cap; rw [OL.out] at this; exact this
          have hcm : c1 ≤ 9223372036854775807 := by have := HO.out.sl.max; unfold maxLen at this; omega
          go_wp2_with fail
          go_ret
          refine ⟨a1, c1, rfl, ?_, hf⟩
          unfold spongeB
          rw [← HP.out, ← HNP.out, HM.out, Nat.mul_div_cancel _ h0, ← HSS.out]
          exact HO.out.take (by rw [OL.out]; omega)
end Go.Proofs.Ythlknckmhjnkjaa
