/- The sponge's write: the bytes are absorbed. The slice lies in another block than the sponge; the sponge absorbs, its place lies within its rate. -/
import Derived.Test.YtjgdbamlaajkmaaAbs
import Derived.LoopTactic
namespace Go.Proofs.Ytjgdbamlaajkmaa
open Go.ChangeShapes Go.WideShapes Go.ChangeAt Go.RowKit Go.Sha

def slLen : Value → Nat | .slice _ n _ => n | _ => 0
def WrRel (w : World) (b T : Nat) (ext : List Value) (d : Dg) (p : Bs) (b' o' np cp : Nat) (sl : Value) (wr : World) : Prop :=
  ∃ j ad, j ≤ np ∧ sl = .slice ad (np - j) (cp - j) ∧ (j < np → ad = some ⟨b', o' + j, none⟩) ∧ DgAt wr b T ext (absorb d (p.take j)) ∧ Fr [b] w wr

theorem absorb_step (d D : Dg) (p : Bs) (j k : Nat) (hd : d.Ok) (hD : absorb d (p.take j) = D) (hj : j + k ≤ p.length) (hk : D.n + k ≤ D.rate) :
    absorb d (p.take (j + k)) = if D.n + k = D.rate then permD { D with a := xorAt D.a D.n ((p.drop j).take k) } else { D with a := xorAt D.a D.n ((p.drop j).take k), n := D.n + k } := by
  subst hD
  have e : p.take (j + k) = p.take j ++ (p.drop j).take k := List.take_add
  have h := absorb_ok hd (p.take j)
  have hl : ((p.drop j).take k).length = k := by simp; omega
  rw [e, absorb_append, absorb_piece _ _ h.1 (by rw [hl]; exact hk), hl]
theorem drop_getD (p : Bs) (j i : Nat) : (p.drop j).getD i 0 = p.getD (j + i) 0 := by simp [List.getD_eq_getElem?_getD]

set_option maxRecDepth 100000 in
set_option maxHeartbeats 800000 in
theorem writeGeneric_any (w : World) (b T : Nat) (ext : List Value) (d : Dg) (ap : Option Addr) (np cp : Nat) (p : Bs) (h : DgAt w b T ext d) (hd : d.Ok) (hst : d.st = 0) (hp : Sl w ap np cp p) (hne : ∀ x, ap = some x → np ≠ 0 → x.block ≠ b) :
    Calls Try.prog 72 #[.pointer (some ⟨b, 0, none⟩), .slice ap np cp] w (RetD (.tuple #[.int .i64 np, .nilIface]) b T ext (absorb d p) w) := by
  obtain ⟨b', o', hbo⟩ : ∃ b' o', np = 0 ∨ (ap = some ⟨b', o', none⟩ ∧ b ≠ b' ∧ ∀ i, i < np → w.cell? ⟨b', o' + i, none⟩ = some (.int .u8 (p.getD i 0).toNat)) := by
    rcases hp.cel with h0 | ⟨b', o', rfl, hc⟩
    · exact ⟨0, 0, .inl h0⟩
    · by_cases h0 : np = 0
      · exact ⟨0, 0, .inl h0⟩
      · exact ⟨b', o', .inr ⟨rfl, fun e => hne _ rfl h0 e.symm, hc⟩⟩
  have hm := hp.max
  have hc := hp.cap
  unfold maxLen at hm
  have q1 := h.cst
  rw [hst] at q1
  go_enter Try.func72, Try.ntmps72
  go_wp2
  go_loopw [1, 6] (fun sl _ wr => WrRel w b T ext d p b' o' np cp sl wr) (fun sl _ _ => slLen sl)
  case atStart =>
    refine ⟨0, ap, Nat.zero_le _, rfl, fun h0 => ?_, h, Fr.refl _ _⟩
    rcases hbo with hbo | ⟨rfl, _, _⟩
    · omega
    · rfl
  case round =>
    obtain ⟨j, ad, hj, rfl, had, hD, hf⟩ := hrel
    by_cases hlt : j < np
    · obtain rfl := had hlt
      rcases hbo with hbo | ⟨rfl, hbb, hcell⟩
      · omega
      have hok := absorb_ok hd (p.take j)
      have hl := hp.len
      have HL := Lib.hid hl
      clear hl
      generalize hDD : absorb d (p.take j) = D at hD hok
      have HDD := Lib.hid hDD
      clear hDD
      obtain ⟨hok, hrate, _⟩ := hok
      have HR := Lib.hid hrate
      clear hrate
      have hn1 := hok.lt
      have hn2 := hok.le
      obtain ⟨k, hk1, hk2, hk3, hk4⟩ : ∃ k : Nat, 0 < k ∧ k ≤ D.rate - D.n ∧ k ≤ np - j ∧ (if np - j < D.rate - D.n then ((np - j : Nat) : Int) else ((D.rate - D.n : Nat) : Int)) = (k : Int) := by
        by_cases h : np - j < D.rate - D.n
        · exact ⟨np - j, by omega, by omega, by omega, by rw [if_pos h]⟩
        · exact ⟨D.rate - D.n, by omega, by omega, by omega, by rw [if_neg h]⟩
      have hcj : ∀ i, i < np - j → wr.cell? ⟨b', o' + j + i, none⟩ = some (.int .u8 ((p.drop j).getD i 0).toNat) := fun i hi => by
        rw [drop_getD, Nat.add_assoc]
        exact hf.cell (hcell (j + i) (by omega)) (by simpa using hbb.symm)
      have HC := Lib.hid hcj
      clear hcj
      go_wp2
      refine wp_region_still_tail 25 (by kernel_rfl) (by kernel_rfl) ?_
      have f1 : Fr [b] w wr.drew := hf.drew
      have D1 : DgAt wr.drew b T ext D := hD
      have HC1 : Hid (∀ i, i < np - j → wr.drew.cell? ⟨b', o' + j + i, none⟩ = some (.int .u8 ((p.drop j).getD i 0).toNat)) := HC
      change wpStill Try.prog _ wr.drew (fun a' => wpList Try.prog _ _ _ a' wr.drew) _ _
      generalize wr.drew = w2 at f1 D1 HC1 ⊢
      have q2 := D1.cn
      have q3 := D1.crate
      clear HC hD hf hcell
      have hb1 : D.n ≤ D.rate := by omega
      have hb2 : D.rate ≤ 200 := by omega
      have hb3 : (D.rate : Int) ≤ 200 := by omega
      have hb4 : ¬ D.n = 200 := by omega
      simp only [List.take_succ_cons, List.take_zero, List.drop_succ_cons, List.drop_zero]
      repeat still_step
      refine wpStill_nil ?_
      go_wp2_with fail
      refine (XORBytes_any w2 b T ext D D.n (D.rate - D.n) (200 - D.n) b' (o' + j) (np - j) (cp - j) k (p.drop j) D1 hbb (by omega) hk1 hk2 hk3 hk4 (by omega) (by omega) HC1.out (by rw [List.length_drop, HL.out])).mono ?_
      rintro e w3 ⟨rfl, D3, f3⟩
      have f4 := f1.trans f3
      clear f1 f3 D1 q2 q3 HC1 hk4
      have q2 := D3.cn
      have q3 := D3.crate
      have q4 := D3.fz 200
      simp only at q2 q3
      have hsum : D.n + k ≤ 168 := by omega
      have D5 := D3.setN (D.n + k)
      have f5 : Fr [b] w (w3.setCell ⟨b, 200, none⟩ (.int .i64 ((D.n + k : Nat) : Int))) := f4.setCell _ _ (.inr (by simp))
      by_cases hcap : cp - j = k
      · go_wp2
        rw [Int.natCast_add] at D5 f5
        generalize w3.setCell ⟨b, 200, none⟩ (.int .i64 ((D.n : Int) + (k : Int))) = w5 at D5 f5 ⊢
        clear q2 q3 q4 D3 f4
        have q2 := D5.cn
        have q3 := D5.crate
        simp only at q2 q3
        by_cases hfull : D.n + k = D.rate
        · have hz : ((D.n : Int) + (k : Int) == (D.rate : Int)) = true := by rw [beq_iff_eq]; omega
          have HF := Lib.hid hfull
          clear hfull
          go_quiet (fail)
          go_wp2_with fail
          have D6 : DgAt (w5.drewN nq) b T ext { D with a := xorAt D.a D.n ((p.drop j).take k), n := D.n + k } := D5
          have f6 : Fr [b] w (w5.drewN nq) := f5.drewN _
          refine (permute_any _ _ _ _ _ D6).mono ?_
          rintro e w7 ⟨rfl, D7, f7⟩
          go_wp2_with fail
          refine ⟨⟨j + k, _, by omega, by congr 1 <;> omega, fun _ => by omega, ?_, f6.trans f7⟩, by simp [slLen]; omega⟩
          rw [absorb_step d D p j k hd HDD.out (by rw [HL.out]; omega) (by omega), if_pos HF.out]
          exact D7
        · have hz : ((D.n : Int) + (k : Int) == (D.rate : Int)) = false := by rw [beq_eq_false_iff_ne]; omega
          have HF := Lib.hid hfull
          clear hfull
          go_quiet (fail)
          go_wp2_with fail
          refine ⟨⟨j + k, _, by omega, by congr 1 <;> omega, fun _ => by omega, ?_, f5.drewN _⟩, by simp [slLen]; omega⟩
          rw [absorb_step d D p j k hd HDD.out (by rw [HL.out]; omega) (by omega), if_neg HF.out]
          exact D5
      · go_wp2
        rw [Int.natCast_add] at D5 f5
        generalize w3.setCell ⟨b, 200, none⟩ (.int .i64 ((D.n : Int) + (k : Int))) = w5 at D5 f5 ⊢
        clear q2 q3 q4 D3 f4
        have q2 := D5.cn
        have q3 := D5.crate
        simp only at q2 q3
        by_cases hfull : D.n + k = D.rate
        · have hz : ((D.n : Int) + (k : Int) == (D.rate : Int)) = true := by rw [beq_iff_eq]; omega
          have HF := Lib.hid hfull
          clear hfull
          go_quiet (fail)
          go_wp2_with fail
          have D6 : DgAt (w5.drewN nq) b T ext { D with a := xorAt D.a D.n ((p.drop j).take k), n := D.n + k } := D5
          have f6 : Fr [b] w (w5.drewN nq) := f5.drewN _
          refine (permute_any _ _ _ _ _ D6).mono ?_
          rintro e w7 ⟨rfl, D7, f7⟩
          go_wp2_with fail
          refine ⟨⟨j + k, _, by omega, by congr 1 <;> omega, fun _ => by congr 2; omega, ?_, f6.trans f7⟩, by simp [slLen]; omega⟩
          rw [absorb_step d D p j k hd HDD.out (by rw [HL.out]; omega) (by omega), if_pos HF.out]
          exact D7
        · have hz : ((D.n : Int) + (k : Int) == (D.rate : Int)) = false := by rw [beq_eq_false_iff_ne]; omega
          have HF := Lib.hid hfull
          clear hfull
          go_quiet (fail)
          go_wp2_with fail
          refine ⟨⟨j + k, _, by omega, by congr 1 <;> omega, fun _ => by congr 2; omega, ?_, f5.drewN _⟩, by simp [slLen]; omega⟩
          rw [absorb_step d D p j k hd HDD.out (by rw [HL.out]; omega) (by omega), if_neg HF.out]
          exact D5
    · go_wp2
      obtain rfl : j = np := by omega
      rw [List.take_of_length_le (by rw [hp.len]; exact Nat.le_refl _)] at hD
      go_ret2
      exact ⟨rfl, hD, hf⟩
end Go.Proofs.Ytjgdbamlaajkmaa
