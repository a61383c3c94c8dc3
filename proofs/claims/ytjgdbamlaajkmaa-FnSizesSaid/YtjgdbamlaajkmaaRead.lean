/- The sponge's read: output is squeezed into a slice in another block. The sponge's place is at most its rate. -/
import Derived.Test.YtjgdbamlaajkmaaWrite
namespace Go.Sha
open Go.RowKit
section
variable {P : Program} {w : World}
/-- copy of bytes into a row of cells -/
theorem run_copy_bytes {t tx ty e ed : TypeId} {i : TypeInfo} (ht : P.underlying t = some (.slice e)) (hi : P.info? e = some i) (hsz : i.size = 1)
    {g o m c b n q c2 k : Nat} {cur : Array Value} {l : Bs} (hg : w.heap[g]? = some (.cells cur ed (0, 0))) (hk : Nat.min q m = k) (hok : o + k ≤ cur.size) (hl : l.length = k)
    (hc : ∀ i, i < k → w.cell? ⟨b, n + i, none⟩ = some (.int .u8 (l.getD i 0).toNat)) :
    (Builtin.copy_ #[t, tx] ty #[.slice (some ⟨g, o, none⟩) m c, .slice (some ⟨b, n, none⟩) q c2]).run P w = .ok (.int .i64 (k : Int)) (w.setRow g (cur.toList.take o ++ l.map bv ++ cur.toList.drop (o + k)).toArray) := by
  have hld : (loadCells ⟨b, n, none⟩ k).run P w = .ok (l.map bv).toArray w := run_loadBytes hl hc
  have hst := run_storeCells_at P g o ed (l.map bv) 0 cur w hg (by simp [hl]; omega) (bytes_one _)
  simp only [Nat.add_zero, List.length_map, hl] at hst
  simp [Builtin.copy_, run_underlying ht, sizeOf, typeInfo, hi, hsz, Builtin.lenOf, hk, Builtin.firstCells, hld, hst, goInt]
theorem wpList_copy_run {ops : Array Oper} {rest : List Oper} {o : Oper} {a : Act} {Q : Exit → Act → World → Prop} {w' : World} {v : Value} (hgd : o.guard = none) (s x : Operand) (t tx : TypeId)
    (ho : o.op = .call { callee := .builtin .copy, args := #[s, x], argTypes := #[t, tx] }) {vs vx : Value} (hs : a.eval s = vs) (hx : a.eval x = vx)
    (hr : (Builtin.copy_ #[t, tx] o.type #[vs, vx]).run P w = .ok v w') (h : wpList P ops Q rest (a.put o.dst v) w') : wpList P ops Q (o :: rest) a w := by
  refine wpList_plain hgd fun K hK => ?_
  unfold Oper.wp execOp
  simp only [ho, resolve, invoke, builtin, Sem.run_bind, Sem.run_pure, Result.andThen_ok, List.map_toArray, List.map_cons, List.map_nil, hs, hx, hr]
  exact hK _ _ h
end
/-- the cells of a row behind bytes that were laid into it from a place on -/
def splice (cur : Array Value) (o : Nat) (l : Bs) : Array Value := (cur.toList.take o ++ l.map bv ++ cur.toList.drop (o + l.length)).toArray
theorem splice_def (cur : Array Value) (o : Nat) (l : Bs) (k : Nat) (h : l.length = k) : (cur.toList.take o ++ l.map bv ++ cur.toList.drop (o + k)).toArray = splice cur o l := by subst h; rfl
theorem splice_nil (cur : Array Value) (o : Nat) : splice cur o [] = cur := by simp [splice]
theorem splice_size (cur : Array Value) (o : Nat) (l : Bs) (h : o + l.length ≤ cur.size) : (splice cur o l).size = cur.size := by
  simp [splice]; omega
theorem splice_splice (cur : Array Value) (o : Nat) (l m : Bs) (h : o + l.length + m.length ≤ cur.size) : splice (splice cur o l) (o + l.length) m = splice cur o (l ++ m) := by
  apply Array.ext'
  simp only [splice, List.map_append, List.length_append]
  have h1 : (cur.toList.take o ++ l.map bv).length = o + l.length := by simp; omega
  rw [List.take_append_of_le_length (by omega), List.take_of_length_le (by omega)]
  rw [List.drop_append, List.drop_of_length_le (by omega), h1, List.drop_drop]
  simp only [List.append_assoc, List.nil_append]
  congr 4
  omega

/-- how a sponge begins to be read: if it absorbs still, it is padded first -/
def startD (d : Dg) : Dg := if d.st = 0 then padD d else d
theorem padD_sq {d : Dg} (h : d.Ok) : (padD d).Sq ∧ (padD d).n = 0 ∧ (padD d).rate = d.rate ∧ (padD d).ds = d.ds ∧ (padD d).out = d.out ∧ (padD d).st = 1 := by
  have h1 := h.lt
  have h2 := h.le
  exact ⟨⟨kf_length _, Nat.zero_le _, by simp only [padD]; omega, h2⟩, rfl, rfl, rfl, rfl, rfl⟩
end Go.Sha
namespace Go.Proofs.Ytjgdbamlaajkmaa
open Go.ChangeShapes Go.WideShapes Go.ChangeAt Go.RowKit Go.Sha

/-- what a round of read finds: j bytes have been handed out -/
def RdRel (w : World) (b T : Nat) (ext : List Value) (d : Dg) (g o m c e : Nat) (cur : Array Value) (sl : Value) (wr : World) : Prop :=
  ∃ j ad, j ≤ m ∧ sl = .slice ad (m - j) (c - j) ∧ (j < m → ad = some ⟨g, o + j, none⟩) ∧ DgAt wr b T ext (squeeze j d).2 ∧ wr.heap[g]? = some (.cells (splice cur o (squeeze j d).1) e (0, 0)) ∧ Fr [b, g] w wr

/-- m bytes of output lie in block g from the place o on; the sponge has moved on -/
def RetR (b T : Nat) (ext : List Value) (d : Dg) (g o m e : Nat) (cur : Array Value) (w : World) (en : Ending) (w' : World) : Prop :=
  en = .returned (.tuple #[.int .i64 m, .nilIface]) ∧ DgAt w' b T ext (squeeze m d).2 ∧ w'.heap[g]? = some (.cells (splice cur o (squeeze m d).1) e (0, 0)) ∧ Fr [b, g] w w'

theorem info5r : (Try.prog.info? 5).map (fun i => (i.zero, i.size, i.bytes)) = some (some (.int .u8 0), 1, 1) := by kernel_rfl

theorem squeeze_step (d D : Dg) (j k : Nat) (hD : squeeze1 (squeeze j d).2 = D) (hs : d.Sq) (hk0 : 0 < k) (hk : D.n + k ≤ D.rate) :
    squeeze (j + k) d = ((squeeze j d).1 ++ (D.a.drop D.n).take k, { D with n := D.n + k }) := by
  have h1 := (squeeze_sq j d hs).1
  have h2 := squeeze1_sq h1
  rw [hD] at h2
  have h3 : squeeze k (squeeze j d).2 = squeeze k D := by
    obtain ⟨k', rfl⟩ : ∃ k', k = k' + 1 := ⟨k - 1, by omega⟩
    have e1 : squeeze1 D = D := by unfold squeeze1; rw [if_neg (by omega)]
    simp only [squeeze, hD, e1]
  rw [squeeze_add, h3, squeeze_piece k D h2.1 hk h2.2.1]

-- LOOPS
set_option maxRecDepth 100000 in
set_option maxHeartbeats 1600000 in
theorem read_sq (w : World) (b T : Nat) (ext : List Value) (d : Dg) (g o m c e : Nat) (cur : Array Value) (h : DgAt w b T ext d) (hs : d.Sq) (hst : (d.st : Int) = 1) (hg : w.heap[g]? = some (.cells cur e (0, 0))) (hgb : b ≠ g) (hom : o + m ≤ cur.size) (hmc : m ≤ c) (hcm : c ≤ 9223372036854775807) :
    Calls Try.prog 89 #[.pointer (some ⟨b, 0, none⟩), .slice (some ⟨g, o, none⟩) m c] w (RetR b T ext d g o m e cur w) := by
  have q1 := h.cst
  rw [hst] at q1
  have G0 := Lib.hid hg
  have H0 : DgAt w b T ext (squeeze 0 d).2 := h
  have F0 := Fr.refl [b, g] w
  clear hg hst h
  go_enter Try.func89, Try.ntmps89
  go_wp2
  clear q1
  go_loopw [1, 6] (fun sl _ wr => RdRel w b T ext d g o m c e cur sl wr) (fun sl _ _ => slLen sl)
  case atStart => exact ⟨0, _, Nat.zero_le _, rfl, fun _ => rfl, H0, by rw [show (squeeze 0 d).1 = [] from rfl, splice_nil]; exact G0.out, F0⟩
  case round =>
    obtain ⟨j, ad, hj, rfl, had, hD, hG, hf⟩ := hrel
    by_cases hlt : j < m
    · obtain rfl := had hlt
      have hsq := (squeeze_sq j d hs).1
      have hsl := squeeze_length j d
      generalize hSS : (squeeze j d).1 = so at hG hsl
      have HSS := Lib.hid hSS
      have HSL := Lib.hid hsl
      clear hSS hsl
      have hds := squeeze1_sq hsq
      generalize hDD : (squeeze j d).2 = D0 at hD hsq hds
      have HG := Lib.hid hG
      clear hG
      have q2 := hD.cn
      have q3 := hD.crate
      have hle := hsq.le
      have hrl := hsq.rle
      have hpo := hsq.pos
      by_cases hfull : D0.n = D0.rate
      · have hz : ((D0.n : Int) == (D0.rate : Int)) = true := by rw [beq_iff_eq]; omega
        have HDs : Hid (squeeze1 (squeeze j d).2 = permD D0) := by show _ = _; rw [hDD]; unfold squeeze1; rw [if_pos hfull]
        have hn1 : (permD D0).n < (permD D0).rate := hpo
        have hn2 : (permD D0).rate ≤ 168 := hrl
        clear hDD hds hfull
        go_wp2
        go_quiet (fail)
        go_wp2_with fail
        have D6 : DgAt (wr.drewN nq) b T ext D0 := hD
        refine (permute_any _ _ _ _ _ D6).mono ?_
        rintro en w1 ⟨rfl, D1, f7⟩
        have G1 : Hid (w1.heap[g]? = some (.cells (splice cur o so) e (0, 0))) := f7.obj (w := wr.drewN nq) HG.out (by simpa using hgb.symm)
        have f1 : Fr [b, g] w w1 := (hf.drewN nq).trans f7.two
        clear D6 f7 hD HG hf q2 q3 hz hle hrl hpo hsq
        generalize permD D0 = D at D1 HDs hn1 hn2
        go_wp2_with fail
        obtain ⟨k, hk1, hk2, hk3, hk4⟩ : ∃ k : Nat, 0 < k ∧ k ≤ D.rate - D.n ∧ k ≤ m - j ∧ Nat.min (D.rate - D.n) (m - j) = k := by
          by_cases hh : D.rate - D.n ≤ m - j
          · exact ⟨D.rate - D.n, by omega, by omega, by omega, Nat.min_eq_left hh⟩
          · exact ⟨m - j, by omega, by omega, by omega, Nat.min_eq_right (by omega)⟩
        have HK4 := Lib.hid hk4
        clear hk4
        refine wp_region_still_tail 13 (by kernel_rfl) (by kernel_rfl) ?_
        have f2 : Fr [b, g] w w1.drew := f1.drew
        have D2 : DgAt w1.drew b T ext D := D1
        have G2 : Hid (w1.drew.heap[g]? = some (.cells (splice cur o so) e (0, 0))) := G1
        change wpStill Try.prog _ w1.drew (fun a' => wpList Try.prog _ _ _ a' w1.drew) _ _
        generalize w1.drew = w2 at f2 D2 G2 ⊢
        clear D1 G1 f1
        have q2 := D2.cn
        have q3 := D2.crate
        have hb1 : D.n ≤ D.rate := by omega
        have hb2 : D.rate ≤ 200 := by omega
        have hb3 : (D.rate : Int) ≤ 200 := by omega
        have hb4 : ¬ D.n = 200 := by omega
        have hb5 : ¬ 200 = D.n := by omega
        simp only [List.take_succ_cons, List.take_zero, List.drop_succ_cons, List.drop_zero]
        repeat still_step
        refine wpStill_nil ?_
        have hll : ((D.a.drop D.n).take k).length = k := by rw [List.length_take, List.length_drop, D2.1]; omega
        obtain ⟨i0, hi0, _, hz1, _⟩ := info_parts info5r
        have hcp := run_copy_bytes (P := Try.prog) (w := w2) (ty := 3) (tx := 22) (c := c - j) (c2 := 200 - D.n) (b := b) (n := D.n) (o := o + j) Try.underlying22 hi0 hz1 G2.out HK4.out (by rw [splice_size _ _ _ (by rw [HSL.out]; omega)]; omega) hll (fun i hi => by
          rw [D2.byte (by omega)]
          simp [List.getD_eq_getElem?_getD, List.getElem?_take_of_lt hi])
        refine wpList_copy_run (vs := .slice (some ⟨g, o + j, none⟩) (m - j) (c - j)) (vx := .slice (some ⟨b, D.n, none⟩) (D.rate - D.n) (200 - D.n)) rfl _ _ 22 22 rfl (by rfl) (by rfl) hcp ?_
        clear hcp
        have G3 : (w2.setRow g ((splice cur o so).toList.take (o + j) ++ ((D.a.drop D.n).take k).map bv ++ (splice cur o so).toList.drop (o + j + k)).toArray).heap[g]? = some (.cells (splice cur o (so ++ (D.a.drop D.n).take k)) e (0, 0)) := by
          have hss := splice_splice cur o so ((D.a.drop D.n).take k) (by rw [HSL.out, hll]; omega)
          rw [HSL.out] at hss
          rw [setRow_heap _ _ _ _ _ _ G2.out, splice_def _ _ _ _ hll, hss]
        have D3 : DgAt (w2.setRow g ((splice cur o so).toList.take (o + j) ++ ((D.a.drop D.n).take k).map bv ++ (splice cur o so).toList.drop (o + j + k)).toArray) b T ext D := ⟨D2.1, by rw [setRow_other _ _ _ _ hgb]; exact D2.2⟩
        have f3 := f2.setRow g ((splice cur o so).toList.take (o + j) ++ ((D.a.drop D.n).take k).map bv ++ (splice cur o so).toList.drop (o + j + k)).toArray (.inr (by simp))
        generalize w2.setRow g ((splice cur o so).toList.take (o + j) ++ ((D.a.drop D.n).take k).map bv ++ (splice cur o so).toList.drop (o + j + k)).toArray = w3 at G3 D3 f3 ⊢
        have HG3 := Lib.hid G3
        have HLL := Lib.hid hll
        clear G3 hll G2 D2 f2 q2 q3 hi0 hz1
        have q2 := D3.cn
        have q4 := D3.fz 200
        have hsum : D.n + k ≤ 168 := by omega
        have D5 := D3.setN (D.n + k)
        have f5 : Fr [b, g] w (w3.setCell ⟨b, 200, none⟩ (.int .i64 ((D.n + k : Nat) : Int))) := f3.setCell _ _ (.inr (by simp))
        have HG5 : Hid ((w3.setCell ⟨b, 200, none⟩ (.int .i64 ((D.n + k : Nat) : Int))).heap[g]? = some (.cells (splice cur o (so ++ (D.a.drop D.n).take k)) e (0, 0))) := by
          show _ = _
          rw [Below.heap_setCell _ _ _ _ (Ne.symm hgb)]
          exact HG3.out
        rw [Int.natCast_add] at D5 f5 HG5
        by_cases hcap : c - j = k
        · go_wp2_with fail
          refine ⟨⟨j + k, _, by omega, by congr 1 <;> omega, fun _ => by omega, ?_, ?_, f5⟩, by simp [slLen]; omega⟩
          · rw [squeeze_step d D j k HDs.out hs hk1 (by omega)]
            exact D5
          · rw [squeeze_step d D j k HDs.out hs hk1 (by omega), HSS.out]
            exact HG5.out
        · go_wp2_with fail
          refine ⟨⟨j + k, _, by omega, by congr 1 <;> omega, fun _ => by congr 2; omega, ?_, ?_, f5⟩, by simp [slLen]; omega⟩
          · rw [squeeze_step d D j k HDs.out hs hk1 (by omega)]
            exact D5
          · rw [squeeze_step d D j k HDs.out hs hk1 (by omega), HSS.out]
            exact HG5.out
      · have hz : ((D0.n : Int) == (D0.rate : Int)) = false := by rw [beq_eq_false_iff_ne]; omega
        have HDs : Hid (squeeze1 (squeeze j d).2 = D0) := by show _ = _; rw [hDD]; unfold squeeze1; rw [if_neg hfull]
        have hn1 : D0.n < D0.rate := by omega
        have hn2 := hrl
        clear hDD hds hfull
        go_wp2
        go_quiet (fail)
        go_wp2_with fail
        have D1 : DgAt (wr.drewN nq) b T ext D0 := hD
        have G1 : Hid ((wr.drewN nq).heap[g]? = some (.cells (splice cur o so) e (0, 0))) := HG
        have f1 : Fr [b, g] w (wr.drewN nq) := hf.drewN nq
        generalize wr.drewN nq = w1 at D1 G1 f1 ⊢
        clear hD HG hf q2 q3 hz hle hrl hpo hsq
        generalize D0 = D at D1 HDs hn1 hn2
        obtain ⟨k, hk1, hk2, hk3, hk4⟩ : ∃ k : Nat, 0 < k ∧ k ≤ D.rate - D.n ∧ k ≤ m - j ∧ Nat.min (D.rate - D.n) (m - j) = k := by
          by_cases hh : D.rate - D.n ≤ m - j
          · exact ⟨D.rate - D.n, by omega, by omega, by omega, Nat.min_eq_left hh⟩
          · exact ⟨m - j, by omega, by omega, by omega, Nat.min_eq_right (by omega)⟩
        have HK4 := Lib.hid hk4
        clear hk4
        refine wp_region_still_tail 13 (by kernel_rfl) (by kernel_rfl) ?_
        have f2 : Fr [b, g] w w1.drew := f1.drew
        have D2 : DgAt w1.drew b T ext D := D1
        have G2 : Hid (w1.drew.heap[g]? = some (.cells (splice cur o so) e (0, 0))) := G1
        change wpStill Try.prog _ w1.drew (fun a' => wpList Try.prog _ _ _ a' w1.drew) _ _
        generalize w1.drew = w2 at f2 D2 G2 ⊢
        clear D1 G1 f1
        have q2 := D2.cn
        have q3 := D2.crate
        have hb1 : D.n ≤ D.rate := by omega
        have hb2 : D.rate ≤ 200 := by omega
        have hb3 : (D.rate : Int) ≤ 200 := by omega
        have hb4 : ¬ D.n = 200 := by omega
        have hb5 : ¬ 200 = D.n := by omega
        simp only [List.take_succ_cons, List.take_zero, List.drop_succ_cons, List.drop_zero]
        repeat still_step
        refine wpStill_nil ?_
        have hll : ((D.a.drop D.n).take k).length = k := by rw [List.length_take, List.length_drop, D2.1]; omega
        obtain ⟨i0, hi0, _, hz1, _⟩ := info_parts info5r
        have hcp := run_copy_bytes (P := Try.prog) (w := w2) (ty := 3) (tx := 22) (c := c - j) (c2 := 200 - D.n) (b := b) (n := D.n) (o := o + j) Try.underlying22 hi0 hz1 G2.out HK4.out (by rw [splice_size _ _ _ (by rw [HSL.out]; omega)]; omega) hll (fun i hi => by
          rw [D2.byte (by omega)]
          simp [List.getD_eq_getElem?_getD, List.getElem?_take_of_lt hi])
        refine wpList_copy_run (vs := .slice (some ⟨g, o + j, none⟩) (m - j) (c - j)) (vx := .slice (some ⟨b, D.n, none⟩) (D.rate - D.n) (200 - D.n)) rfl _ _ 22 22 rfl (by rfl) (by rfl) hcp ?_
        clear hcp
        have G3 : (w2.setRow g ((splice cur o so).toList.take (o + j) ++ ((D.a.drop D.n).take k).map bv ++ (splice cur o so).toList.drop (o + j + k)).toArray).heap[g]? = some (.cells (splice cur o (so ++ (D.a.drop D.n).take k)) e (0, 0)) := by
          have hss := splice_splice cur o so ((D.a.drop D.n).take k) (by rw [HSL.out, hll]; omega)
          rw [HSL.out] at hss
          rw [setRow_heap _ _ _ _ _ _ G2.out, splice_def _ _ _ _ hll, hss]
        have D3 : DgAt (w2.setRow g ((splice cur o so).toList.take (o + j) ++ ((D.a.drop D.n).take k).map bv ++ (splice cur o so).toList.drop (o + j + k)).toArray) b T ext D := ⟨D2.1, by rw [setRow_other _ _ _ _ hgb]; exact D2.2⟩
        have f3 := f2.setRow g ((splice cur o so).toList.take (o + j) ++ ((D.a.drop D.n).take k).map bv ++ (splice cur o so).toList.drop (o + j + k)).toArray (.inr (by simp))
        generalize w2.setRow g ((splice cur o so).toList.take (o + j) ++ ((D.a.drop D.n).take k).map bv ++ (splice cur o so).toList.drop (o + j + k)).toArray = w3 at G3 D3 f3 ⊢
        have HG3 := Lib.hid G3
        have HLL := Lib.hid hll
        clear G3 hll G2 D2 f2 q2 q3 hi0 hz1
        have q2 := D3.cn
        have q4 := D3.fz 200
        have hsum : D.n + k ≤ 168 := by omega
        have D5 := D3.setN (D.n + k)
        have f5 : Fr [b, g] w (w3.setCell ⟨b, 200, none⟩ (.int .i64 ((D.n + k : Nat) : Int))) := f3.setCell _ _ (.inr (by simp))
        have HG5 : Hid ((w3.setCell ⟨b, 200, none⟩ (.int .i64 ((D.n + k : Nat) : Int))).heap[g]? = some (.cells (splice cur o (so ++ (D.a.drop D.n).take k)) e (0, 0))) := by
          show _ = _
          rw [Below.heap_setCell _ _ _ _ (Ne.symm hgb)]
          exact HG3.out
        rw [Int.natCast_add] at D5 f5 HG5
        by_cases hcap : c - j = k
        · go_wp2_with fail
          refine ⟨⟨j + k, _, by omega, by congr 1 <;> omega, fun _ => by omega, ?_, ?_, f5⟩, by simp [slLen]; omega⟩
          · rw [squeeze_step d D j k HDs.out hs hk1 (by omega)]
            exact D5
          · rw [squeeze_step d D j k HDs.out hs hk1 (by omega), HSS.out]
            exact HG5.out
        · go_wp2_with fail
          refine ⟨⟨j + k, _, by omega, by congr 1 <;> omega, fun _ => by congr 2; omega, ?_, ?_, f5⟩, by simp [slLen]; omega⟩
          · rw [squeeze_step d D j k HDs.out hs hk1 (by omega)]
            exact D5
          · rw [squeeze_step d D j k HDs.out hs hk1 (by omega), HSS.out]
            exact HG5.out
    · go_wp2
      obtain rfl : j = m := by omega
      go_ret2
      exact ⟨rfl, hD, hG, hf⟩

set_option maxRecDepth 100000 in
set_option maxHeartbeats 1600000 in
theorem read_abs (w : World) (b T : Nat) (ext : List Value) (d0 : Dg) (g o m c e : Nat) (cur : Array Value) (h : DgAt w b T ext d0) (hok : d0.Ok) (hst : (d0.st : Int) = 0) (hg : w.heap[g]? = some (.cells cur e (0, 0))) (hgb : b ≠ g) (hom : o + m ≤ cur.size) (hmc : m ≤ c) (hcm : c ≤ 9223372036854775807) :
    Calls Try.prog 89 #[.pointer (some ⟨b, 0, none⟩), .slice (some ⟨g, o, none⟩) m c] w (RetR b T ext (padD d0) g o m e cur w) := by
  have q1 := h.cst
  rw [hst] at q1
  have G0 := Lib.hid hg
  have hs := (padD_sq hok).1
  clear hg hst
  generalize hpd : padD d0 = d at hs ⊢
  have HPD := Lib.hid hpd
  clear hpd
  go_enter Try.func89, Try.ntmps89
  go_wp2_with fail
  refine (padAndPermute_any _ _ _ _ _ h hok.lt hok.le).mono ?_
  rintro en w0 ⟨rfl, H1, F1⟩
  rw [HPD.out] at H1
  have H0 : DgAt w0 b T ext (squeeze 0 d).2 := H1
  have F0 : Fr [b, g] w w0 := F1.two
  replace G0 : Hid (w0.heap[g]? = some (.cells cur e (0, 0))) := F1.obj G0.out (by simpa using hgb.symm)
  clear H1 F1 q1 h
  go_wp2_with fail
  go_loopw [1, 6] (fun sl _ wr => RdRel w b T ext d g o m c e cur sl wr) (fun sl _ _ => slLen sl)
  case atStart => exact ⟨0, _, Nat.zero_le _, rfl, fun _ => rfl, H0, by rw [show (squeeze 0 d).1 = [] from rfl, splice_nil]; exact G0.out, F0⟩
  case round =>
    obtain ⟨j, ad, hj, rfl, had, hD, hG, hf⟩ := hrel
    by_cases hlt : j < m
    · obtain rfl := had hlt
      have hsq := (squeeze_sq j d hs).1
      have hsl := squeeze_length j d
      generalize hSS : (squeeze j d).1 = so at hG hsl
      have HSS := Lib.hid hSS
      have HSL := Lib.hid hsl
      clear hSS hsl
      have hds := squeeze1_sq hsq
      generalize hDD : (squeeze j d).2 = D0 at hD hsq hds
      have HG := Lib.hid hG
      clear hG
      have q2 := hD.cn
      have q3 := hD.crate
      have hle := hsq.le
      have hrl := hsq.rle
      have hpo := hsq.pos
      by_cases hfull : D0.n = D0.rate
      · have hz : ((D0.n : Int) == (D0.rate : Int)) = true := by rw [beq_iff_eq]; omega
        have HDs : Hid (squeeze1 (squeeze j d).2 = permD D0) := by show _ = _; rw [hDD]; unfold squeeze1; rw [if_pos hfull]
        have hn1 : (permD D0).n < (permD D0).rate := hpo
        have hn2 : (permD D0).rate ≤ 168 := hrl
        clear hDD hds hfull
        go_wp2
        go_quiet (fail)
        go_wp2_with fail
        have D6 : DgAt (wr.drewN nq) b T ext D0 := hD
        refine (permute_any _ _ _ _ _ D6).mono ?_
        rintro en w1 ⟨rfl, D1, f7⟩
        have G1 : Hid (w1.heap[g]? = some (.cells (splice cur o so) e (0, 0))) := f7.obj (w := wr.drewN nq) HG.out (by simpa using hgb.symm)
        have f1 : Fr [b, g] w w1 := (hf.drewN nq).trans f7.two
        clear D6 f7 hD HG hf q2 q3 hz hle hrl hpo hsq
        generalize permD D0 = D at D1 HDs hn1 hn2
        go_wp2_with fail
        obtain ⟨k, hk1, hk2, hk3, hk4⟩ : ∃ k : Nat, 0 < k ∧ k ≤ D.rate - D.n ∧ k ≤ m - j ∧ Nat.min (D.rate - D.n) (m - j) = k := by
          by_cases hh : D.rate - D.n ≤ m - j
          · exact ⟨D.rate - D.n, by omega, by omega, by omega, Nat.min_eq_left hh⟩
          · exact ⟨m - j, by omega, by omega, by omega, Nat.min_eq_right (by omega)⟩
        have HK4 := Lib.hid hk4
        clear hk4
        refine wp_region_still_tail 13 (by kernel_rfl) (by kernel_rfl) ?_
        have f2 : Fr [b, g] w w1.drew := f1.drew
        have D2 : DgAt w1.drew b T ext D := D1
        have G2 : Hid (w1.drew.heap[g]? = some (.cells (splice cur o so) e (0, 0))) := G1
        change wpStill Try.prog _ w1.drew (fun a' => wpList Try.prog _ _ _ a' w1.drew) _ _
        generalize w1.drew = w2 at f2 D2 G2 ⊢
        clear D1 G1 f1
        have q2 := D2.cn
        have q3 := D2.crate
        have hb1 : D.n ≤ D.rate := by omega
        have hb2 : D.rate ≤ 200 := by omega
        have hb3 : (D.rate : Int) ≤ 200 := by omega
        have hb4 : ¬ D.n = 200 := by omega
        have hb5 : ¬ 200 = D.n := by omega
        simp only [List.take_succ_cons, List.take_zero, List.drop_succ_cons, List.drop_zero]
        repeat still_step
        refine wpStill_nil ?_
        have hll : ((D.a.drop D.n).take k).length = k := by rw [List.length_take, List.length_drop, D2.1]; omega
        obtain ⟨i0, hi0, _, hz1, _⟩ := info_parts info5r
        have hcp := run_copy_bytes (P := Try.prog) (w := w2) (ty := 3) (tx := 22) (c := c - j) (c2 := 200 - D.n) (b := b) (n := D.n) (o := o + j) Try.underlying22 hi0 hz1 G2.out HK4.out (by rw [splice_size _ _ _ (by rw [HSL.out]; omega)]; omega) hll (fun i hi => by
          rw [D2.byte (by omega)]
          simp [List.getD_eq_getElem?_getD, List.getElem?_take_of_lt hi])
        refine wpList_copy_run (vs := .slice (some ⟨g, o + j, none⟩) (m - j) (c - j)) (vx := .slice (some ⟨b, D.n, none⟩) (D.rate - D.n) (200 - D.n)) rfl _ _ 22 22 rfl (by rfl) (by rfl) hcp ?_
        clear hcp
        have G3 : (w2.setRow g ((splice cur o so).toList.take (o + j) ++ ((D.a.drop D.n).take k).map bv ++ (splice cur o so).toList.drop (o + j + k)).toArray).heap[g]? = some (.cells (splice cur o (so ++ (D.a.drop D.n).take k)) e (0, 0)) := by
          have hss := splice_splice cur o so ((D.a.drop D.n).take k) (by rw [HSL.out, hll]; omega)
          rw [HSL.out] at hss
          rw [setRow_heap _ _ _ _ _ _ G2.out, splice_def _ _ _ _ hll, hss]
        have D3 : DgAt (w2.setRow g ((splice cur o so).toList.take (o + j) ++ ((D.a.drop D.n).take k).map bv ++ (splice cur o so).toList.drop (o + j + k)).toArray) b T ext D := ⟨D2.1, by rw [setRow_other _ _ _ _ hgb]; exact D2.2⟩
        have f3 := f2.setRow g ((splice cur o so).toList.take (o + j) ++ ((D.a.drop D.n).take k).map bv ++ (splice cur o so).toList.drop (o + j + k)).toArray (.inr (by simp))
        generalize w2.setRow g ((splice cur o so).toList.take (o + j) ++ ((D.a.drop D.n).take k).map bv ++ (splice cur o so).toList.drop (o + j + k)).toArray = w3 at G3 D3 f3 ⊢
        have HG3 := Lib.hid G3
        have HLL := Lib.hid hll
        clear G3 hll G2 D2 f2 q2 q3 hi0 hz1
        have q2 := D3.cn
        have q4 := D3.fz 200
        have hsum : D.n + k ≤ 168 := by omega
        have D5 := D3.setN (D.n + k)
        have f5 : Fr [b, g] w (w3.setCell ⟨b, 200, none⟩ (.int .i64 ((D.n + k : Nat) : Int))) := f3.setCell _ _ (.inr (by simp))
        have HG5 : Hid ((w3.setCell ⟨b, 200, none⟩ (.int .i64 ((D.n + k : Nat) : Int))).heap[g]? = some (.cells (splice cur o (so ++ (D.a.drop D.n).take k)) e (0, 0))) := by
          show _ = _
          rw [Below.heap_setCell _ _ _ _ (Ne.symm hgb)]
          exact HG3.out
        rw [Int.natCast_add] at D5 f5 HG5
        by_cases hcap : c - j = k
        · go_wp2_with fail
          refine ⟨⟨j + k, _, by omega, by congr 1 <;> omega, fun _ => by omega, ?_, ?_, f5⟩, by simp [slLen]; omega⟩
          · rw [squeeze_step d D j k HDs.out hs hk1 (by omega)]
            exact D5
          · rw [squeeze_step d D j k HDs.out hs hk1 (by omega), HSS.out]
            exact HG5.out
        · go_wp2_with fail
          refine ⟨⟨j + k, _, by omega, by congr 1 <;> omega, fun _ => by congr 2; omega, ?_, ?_, f5⟩, by simp [slLen]; omega⟩
          · rw [squeeze_step d D j k HDs.out hs hk1 (by omega)]
            exact D5
          · rw [squeeze_step d D j k HDs.out hs hk1 (by omega), HSS.out]
            exact HG5.out
      · have hz : ((D0.n : Int) == (D0.rate : Int)) = false := by rw [beq_eq_false_iff_ne]; omega
        have HDs : Hid (squeeze1 (squeeze j d).2 = D0) := by show _ = _; rw [hDD]; unfold squeeze1; rw [if_neg hfull]
        have hn1 : D0.n < D0.rate := by omega
        have hn2 := hrl
        clear hDD hds hfull
        go_wp2
        go_quiet (fail)
        go_wp2_with fail
        have D1 : DgAt (wr.drewN nq) b T ext D0 := hD
        have G1 : Hid ((wr.drewN nq).heap[g]? = some (.cells (splice cur o so) e (0, 0))) := HG
        have f1 : Fr [b, g] w (wr.drewN nq) := hf.drewN nq
        generalize wr.drewN nq = w1 at D1 G1 f1 ⊢
        clear hD HG hf q2 q3 hz hle hrl hpo hsq
        generalize D0 = D at D1 HDs hn1 hn2
        obtain ⟨k, hk1, hk2, hk3, hk4⟩ : ∃ k : Nat, 0 < k ∧ k ≤ D.rate - D.n ∧ k ≤ m - j ∧ Nat.min (D.rate - D.n) (m - j) = k := by
          by_cases hh : D.rate - D.n ≤ m - j
          · exact ⟨D.rate - D.n, by omega, by omega, by omega, Nat.min_eq_left hh⟩
          · exact ⟨m - j, by omega, by omega, by omega, Nat.min_eq_right (by omega)⟩
        have HK4 := Lib.hid hk4
        clear hk4
        refine wp_region_still_tail 13 (by kernel_rfl) (by kernel_rfl) ?_
        have f2 : Fr [b, g] w w1.drew := f1.drew
        have D2 : DgAt w1.drew b T ext D := D1
        have G2 : Hid (w1.drew.heap[g]? = some (.cells (splice cur o so) e (0, 0))) := G1
        change wpStill Try.prog _ w1.drew (fun a' => wpList Try.prog _ _ _ a' w1.drew) _ _
        generalize w1.drew = w2 at f2 D2 G2 ⊢
        clear D1 G1 f1
        have q2 := D2.cn
        have q3 := D2.crate
        have hb1 : D.n ≤ D.rate := by omega
        have hb2 : D.rate ≤ 200 := by omega
        have hb3 : (D.rate : Int) ≤ 200 := by omega
        have hb4 : ¬ D.n = 200 := by omega
        have hb5 : ¬ 200 = D.n := by omega
        simp only [List.take_succ_cons, List.take_zero, List.drop_succ_cons, List.drop_zero]
        repeat still_step
        refine wpStill_nil ?_
        have hll : ((D.a.drop D.n).take k).length = k := by rw [List.length_take, List.length_drop, D2.1]; omega
        obtain ⟨i0, hi0, _, hz1, _⟩ := info_parts info5r
        have hcp := run_copy_bytes (P := Try.prog) (w := w2) (ty := 3) (tx := 22) (c := c - j) (c2 := 200 - D.n) (b := b) (n := D.n) (o := o + j) Try.underlying22 hi0 hz1 G2.out HK4.out (by rw [splice_size _ _ _ (by rw [HSL.out]; omega)]; omega) hll (fun i hi => by
          rw [D2.byte (by omega)]
          simp [List.getD_eq_getElem?_getD, List.getElem?_take_of_lt hi])
        refine wpList_copy_run (vs := .slice (some ⟨g, o + j, none⟩) (m - j) (c - j)) (vx := .slice (some ⟨b, D.n, none⟩) (D.rate - D.n) (200 - D.n)) rfl _ _ 22 22 rfl (by rfl) (by rfl) hcp ?_
        clear hcp
        have G3 : (w2.setRow g ((splice cur o so).toList.take (o + j) ++ ((D.a.drop D.n).take k).map bv ++ (splice cur o so).toList.drop (o + j + k)).toArray).heap[g]? = some (.cells (splice cur o (so ++ (D.a.drop D.n).take k)) e (0, 0)) := by
          have hss := splice_splice cur o so ((D.a.drop D.n).take k) (by rw [HSL.out, hll]; omega)
          rw [HSL.out] at hss
          rw [setRow_heap _ _ _ _ _ _ G2.out, splice_def _ _ _ _ hll, hss]
        have D3 : DgAt (w2.setRow g ((splice cur o so).toList.take (o + j) ++ ((D.a.drop D.n).take k).map bv ++ (splice cur o so).toList.drop (o + j + k)).toArray) b T ext D := ⟨D2.1, by rw [setRow_other _ _ _ _ hgb]; exact D2.2⟩
        have f3 := f2.setRow g ((splice cur o so).toList.take (o + j) ++ ((D.a.drop D.n).take k).map bv ++ (splice cur o so).toList.drop (o + j + k)).toArray (.inr (by simp))
        generalize w2.setRow g ((splice cur o so).toList.take (o + j) ++ ((D.a.drop D.n).take k).map bv ++ (splice cur o so).toList.drop (o + j + k)).toArray = w3 at G3 D3 f3 ⊢
        have HG3 := Lib.hid G3
        have HLL := Lib.hid hll
        clear G3 hll G2 D2 f2 q2 q3 hi0 hz1
        have q2 := D3.cn
        have q4 := D3.fz 200
        have hsum : D.n + k ≤ 168 := by omega
        have D5 := D3.setN (D.n + k)
        have f5 : Fr [b, g] w (w3.setCell ⟨b, 200, none⟩ (.int .i64 ((D.n + k : Nat) : Int))) := f3.setCell _ _ (.inr (by simp))
        have HG5 : Hid ((w3.setCell ⟨b, 200, none⟩ (.int .i64 ((D.n + k : Nat) : Int))).heap[g]? = some (.cells (splice cur o (so ++ (D.a.drop D.n).take k)) e (0, 0))) := by
          show _ = _
          rw [Below.heap_setCell _ _ _ _ (Ne.symm hgb)]
          exact HG3.out
        rw [Int.natCast_add] at D5 f5 HG5
        by_cases hcap : c - j = k
        · go_wp2_with fail
          refine ⟨⟨j + k, _, by omega, by congr 1 <;> omega, fun _ => by omega, ?_, ?_, f5⟩, by simp [slLen]; omega⟩
          · rw [squeeze_step d D j k HDs.out hs hk1 (by omega)]
            exact D5
          · rw [squeeze_step d D j k HDs.out hs hk1 (by omega), HSS.out]
            exact HG5.out
        · go_wp2_with fail
          refine ⟨⟨j + k, _, by omega, by congr 1 <;> omega, fun _ => by congr 2; omega, ?_, ?_, f5⟩, by simp [slLen]; omega⟩
          · rw [squeeze_step d D j k HDs.out hs hk1 (by omega)]
            exact D5
          · rw [squeeze_step d D j k HDs.out hs hk1 (by omega), HSS.out]
            exact HG5.out
    · go_wp2
      obtain rfl : j = m := by omega
      go_ret2
      exact ⟨rfl, hD, hG, hf⟩
end Go.Proofs.Ytjgdbamlaajkmaa
