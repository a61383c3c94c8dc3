/- FnEqualSums: for every input of bulk at most 1048576 the law returns true, and each argument reads afterwards as it read before. The bound on the bulk is the given one. -/
import Derived.Test.YtfgfhdkedmgfiaaGA
import Derived.Test.YtfgfhdkedmgfiaaGB
import Derived.Test.YtfgfhdkedmgfiaaGC
import Derived.Test.YtfgfhdkedmgfiaaGG
import Derived.Test.YtfgfhdkedmgfiaaGH
import Derived.Test.YtfgfhdkedmgfiaaGN
import Derived.Test.YtfgfhdkedmgfiaaGS
import Derived.Test.YtfgfhdkedmgfiaaGT
import Derived.Test.YtfgfhdkedmgfiaaGU
import Derived.Test.YtfgfhdkedmgfiaaGP
import Derived.Test.YtfgfhdkedmgfiaaGI
import Derived.Test.YtfgfhdkedmgfiaaGK
import Derived.Test.YtfgfhdkedmgfiaaGV
import Derived.Test.YtfgfhdkedmgfiaaGL
import Derived.Test.YtfgfhdkedmgfiaaGJ
import Derived.Below
import Derived.ChangeOld
import Derived.Deep.RegionHeld3
import Derived.LoopTactic
import Derived.ShutString
section
namespace Go.Proofs.Ytfgfhdkedmgfiaa
open Go.ChangeShapes Go.WideShapes Go.ChangeAt Go.RowKit Go.Sha

theorem boolToU8 (b : Bool) (w : World) : (callFunc 116 #[.bool b]).run Try.prog w = .ok (.value (.int .u8 (if b then 1 else 0))) w := by
  rw [run_callFunc_ext Try.func116 #[.bool b] (pure (.int .u8 (if b then 1 else 0))) (by kernel_rfl) (by kernel_rfl) (by kernel_rfl) (by kernel_rfl)]
  rfl

theorem byteEq (x y : Int) (w : World) :
    Calls Try.prog 106 #[.int .u8 x, .int .u8 y] w fun e w' => e = .returned (.int .i64 (b2i (x == y))) ∧ w = w' := by
  have hb := boolToU8
  cases h : x == y
  all_goals
    go_enter Try.func106, Try.ntmps106
    go_wp2
    go_ret
    exact ⟨by simp [b2i], rfl⟩

theorem ctc_no (a0 b0 : Option Addr) (la ca lb cb : Nat) (w : World) (h : la ≠ lb) :
    Calls Try.prog 98 #[.slice a0 la ca, .slice b0 lb cb] w (RetI 0 w) := by
  have h1 : ((la : Int) != (lb : Int)) = true := by simp only [bne_iff_ne, ne_eq]; omega
  go_enter Try.func98, Try.ntmps98
  go_wp2
  go_ret
  exact ⟨rfl, Fr.refl _ _⟩

/-- 1 if the bytes are the same, else 0 -/
def eqI (x y : Bs) : Int := if x = y then 1 else 0
/-- what the loop has gathered at its k-th round -/
def CtcRel (w : World) (x y : Bs) (n : Nat) (v i : Value) (wr : World) : Prop :=
  ∃ (k : Nat) (u : UInt8), k ≤ n ∧ i = .int .i64 k ∧ v = .int .u8 u.toNat ∧ (u = 0 ↔ x.take k = y.take k) ∧ Fr [] w wr

theorem or_xor_zero (u a b : UInt8) : (u ||| (a ^^^ b)) = 0 ↔ u = 0 ∧ a = b := by
  constructor
  · intro h
    have h1 : (u ||| (a ^^^ b)).toBitVec = 0#8 := by rw [h]; rfl
    simp only [UInt8.toBitVec_or, UInt8.toBitVec_xor] at h1
    have h2 := BitVec.or_eq_zero_iff.1 h1
    refine ⟨UInt8.toBitVec_inj.1 h2.1, UInt8.toBitVec_inj.1 ?_⟩
    have h3 := h2.2
    exact BitVec.xor_eq_zero_iff.1 h3
  · rintro ⟨rfl, rfl⟩
    apply UInt8.toBitVec_inj.1
    simp
theorem take_succ_eq (x y : Bs) (k n : Nat) (hx : x.length = n) (hy : y.length = n) (h : k < n) :
    x.take (k + 1) = y.take (k + 1) ↔ x.take k = y.take k ∧ x.getD k 0 = y.getD k 0 := by
  rw [List.take_succ_eq_append_getElem (by omega), List.take_succ_eq_append_getElem (by omega)]
  rw [getD_at _ _ (by omega), getD_at _ _ (by omega)]
  constructor
  · intro e
    have := List.append_inj e (by simp; omega)
    simpa using this
  · rintro ⟨e1, e2⟩
    rw [e1, e2]
theorem ctc_step (w wr : World) (x y : Bs) (n k nq : Nat) (u : UInt8) (hx : x.length = n) (hy : y.length = n) (h : k < n) (hu : u = 0 ↔ x.take k = y.take k) (hf : Fr [] w wr) :
    CtcRel w x y n (Value.int IntKind.u8 (bits BinOp.or IntKind.u8 (↑u.toNat) (bits BinOp.xor IntKind.u8 ↑(x[k]?.getD 0).toNat ↑(y[k]?.getD 0).toNat)))
      (Value.int IntKind.i64 (↑k + 1)) (wr.drewN nq) := by
  refine ⟨k + 1, u ||| (x.getD k 0 ^^^ y.getD k 0), h, by simp, by rw [bits_xor, bits_or, getD_opt, getD_opt], ?_, hf.drewN _⟩
  rw [or_xor_zero, take_succ_eq x y k n hx hy h, hu]

set_option maxHeartbeats 400000 in
theorem ctc_yes (a0 b0 : Option Addr) (n ca cb : Nat) (x y : Bs) (w : World) (hx : Sl w a0 n ca x) (hy : Sl w b0 n cb y) :
    Calls Try.prog 98 #[.slice a0 n ca, .slice b0 n cb] w (RetI (eqI x y) w) := by
  have hm := hx.max
  have hc := hx.cap
  unfold maxLen at hm
  go_enter Try.func98, Try.ntmps98
  go_wp2
  go_loopw [5, 6] (fun v i wr => CtcRel w x y n v i wr) (fun _ i _ => n - (intOf i).toNat)
  case atStart => exact ⟨0, 0, Nat.zero_le _, rfl, rfl, by simp, Fr.refl _ _⟩
  case round =>
    obtain ⟨k, u, hk, rfl, rfl, hu, hf⟩ := hrel
    by_cases hlt : k < n
    · rcases hx.cel with h0 | ⟨b, o, rfl, hcx⟩
      · omega
      rcases hy.cel with h0 | ⟨b', o', rfl, hcy⟩
      · omega
      have q1 := hf.cell (hcx k hlt) (by simp)
      have q2 := hf.cell (hcy k hlt) (by simp)
      go_wp2
      go_quiet (fail)
      go_wp2
      refine ⟨ctc_step w wr x y n k _ u hx.len hy.len hlt hu hf, ?_⟩
      simp [intOf]; omega
    · go_wp2_with (go_at_call 106; refine (byteEq _ _ _).mono ?_; rintro e w' ⟨rfl, rfl⟩)
      go_ret
      obtain rfl : k = n := by omega
      rw [← hx.len, List.take_length, hx.len, ← hy.len, List.take_length] at hu
      refine ⟨ret_int ?_, hf⟩
      unfold eqI
      by_cases h : x = y
      · rw [if_pos h, hu.2 h]; rfl
      · rw [if_neg h]
        have : ¬ u = 0 := fun e => h (hu.1 e)
        have h2 : ((u.toNat : Int) == 0) = false := by
          rw [beq_eq_false_iff_ne]
          intro e
          exact this (UInt8.toNat_inj.1 (by simp; omega))
        rw [h2]; rfl

/-- ConstantTimeCompare: 1 if the two read as the same bytes, else 0 -/
theorem ctc (a0 b0 : Option Addr) (n m ca cb : Nat) (x y : Bs) (w : World) (hx : Sl w a0 n ca x) (hy : Sl w b0 m cb y) :
    Calls Try.prog 98 #[.slice a0 n ca, .slice b0 m cb] w (RetI (eqI x y) w) := by
  by_cases h : n = m
  · subst h
    exact ctc_yes a0 b0 n ca cb x y w hx hy
  · have h2 : eqI x y = 0 := by
      unfold eqI
      rw [if_neg]
      rintro rfl
      exact h (hx.len.symm.trans hy.len)
    rw [h2]
    exact ctc_no a0 b0 n ca m cb w h

theorem ctc2 (a0 b0 : Option Addr) (n m ca cb : Nat) (x y : Bs) (w : World) (hx : Sl w a0 n ca x) (hy : Sl w b0 m cb y) :
    Calls Try.prog 80 #[.slice a0 n ca, .slice b0 m cb] w (RetI (eqI x y) w) := by
  go_enter Try.func80, Try.ntmps80
  go_wp2_with fail
  refine (ctc _ _ _ _ _ _ x y _ hx hy).mono ?_
  rintro e w' ⟨rfl, hf⟩
  go_wp2_with fail
  go_ret
  exact ⟨rfl, hf⟩

theorem equal (a0 b0 : Option Addr) (n m ca cb : Nat) (x y : Bs) (w : World) (hx : Sl w a0 n ca x) (hy : Sl w b0 m cb y) :
    Calls Try.prog 46 #[.slice a0 n ca, .slice b0 m cb] w (RetB (x == y) w) := by
  go_enter Try.func46, Try.ntmps46
  go_wp2_with fail
  refine (ctc2 _ _ _ _ _ _ x y _ hx hy).mono ?_
  rintro e w' ⟨rfl, hf⟩
  go_wp2_with fail
  go_ret
  refine ⟨?_, hf⟩
  unfold eqI
  by_cases h : x = y <;> simp [h]

/-- EqualMACs tells whether the two read as the same bytes -/
theorem equalMACs (a0 b0 : Option Addr) (n m ca cb : Nat) (x y : Bs) (w : World) (hx : Sl w a0 n ca x) (hy : Sl w b0 m cb y) :
    Calls Try.prog 28 #[.slice a0 n ca, .slice b0 m cb] w (RetB (x == y) w) := by
  go_enter Try.func28, Try.ntmps28
  go_wp2_with fail
  refine (equal _ _ _ _ _ _ x y _ hx hy).mono ?_
  rintro e w' ⟨rfl, hf⟩
  go_wp2_with fail
  go_ret
  exact ⟨rfl, hf⟩
theorem equalMACs_t (a0 b0 : Option Addr) (n m ca cb : Nat) (x y : Bs) (w : World) (hx : Sl w a0 n ca x) (hy : Sl w b0 m cb y) (h : x = y) :
    Calls Try.prog 28 #[.slice a0 n ca, .slice b0 m cb] w (RetB true w) := by
  have := equalMACs a0 b0 n m ca cb x y w hx hy
  rwa [show (x == y) = true by simpa using h] at this
theorem equalMACs_f (a0 b0 : Option Addr) (n m ca cb : Nat) (x y : Bs) (w : World) (hx : Sl w a0 n ca x) (hy : Sl w b0 m cb y) (h : ¬ x = y) :
    Calls Try.prog 28 #[.slice a0 n ca, .slice b0 m cb] w (RetB false w) := by
  have := equalMACs a0 b0 n m ca cb x y w hx hy
  rwa [show (x == y) = false by simpa using h] at this
end Go.Proofs.Ytfgfhdkedmgfiaa
end

section
namespace Go.Proofs.Ytfgfhdkedmgfiaa
open Go.ChangeShapes Go.WideShapes Go.ChangeAt Go.RowKit Go.Sha
/-- the four sums of bytes, and the list of them -/
structure WhI (gw : Nat) (gs : List Nat) (data : Bs) (w : World) : Prop where
  c : ∀ k, k < 4 → w.cell? ⟨gw, k, none⟩ = some (.slice (some ⟨gs.getD k 0, 0, none⟩) (oOf k) (oOf k))
  s : ∀ k, k < 4 → Sl w (some ⟨gs.getD k 0, 0, none⟩) (oOf k) (oOf k) (hsum (rOf k) (oOf k) data)
theorem WhI.keep {gw : Nat} {gs : List Nat} {data : Bs} {w w' : World} (h : WhI gw gs data w) (f : Fr [] w w') : WhI gw gs data w' :=
  ⟨fun k hk => f.cell (h.c k hk) (by simp), fun k hk => (h.s k hk).keep0 f⟩
theorem o_ge16 : ∀ k, k < 5 → 16 ≤ oOf k := by decide
theorem k5_nat (k : Nat) (h : k < 5) : k5 (k : Int) = k := by unfold k5; omega
def WhRel (w : World) (gw : Nat) (gs : List Nat) (data : Bs) (kv : Value) (wr : World) : Prop := ∃ k : Nat, k ≤ 4 ∧ kv = .int .i64 ((k : Nat) : Int) ∧ WhI gw gs data wr ∧ Fr [] w wr
/-- what the last statement of a round reads -/
structure EsI (gw : Nat) (gs : List Nat) (data : Bs) (w0 : World) (b : Nat) (g n c M : Nat) (rs : List Res) (vs : List (Option Addr × Nat)) (w : World) : Prop where
  wh : WhI gw gs data w
  rs : RsI 31 5 w b [] (some ⟨g, 0, none⟩) n c rs vs
  fr : Fr [] w0 w
theorem EsI.keep {gw : Nat} {gs : List Nat} {data : Bs} {w0 : World} {b : Nat} {g n c M : Nat} {rs : List Res} {vs : List (Option Addr × Nat)} {w w' : World} (h : EsI gw gs data w0 b g n c M rs vs w) (f : Fr [] w w') : EsI gw gs data w0 b g n c M rs vs w' :=
  ⟨h.wh.keep f, h.rs.keep f (by simp), h.fr.trans f⟩
theorem EsI.cell {gw : Nat} {gs : List Nat} {data : Bs} {w0 : World} {b : Nat} {g n c M : Nat} {rs : List Res} {vs : List (Option Addr × Nat)} {w : World} (h : EsI gw gs data w0 b g n c M rs vs w) (hM : M < n) : w.cell? ⟨g, M * 4 + 1, none⟩ = some (.slice (vs.getD M (none, 0)).1 (rs.getD M ⟨0, [], false, false⟩).data.length (vs.getD M (none, 0)).2) := by
  have := RsI_cell h.rs M 1 hM (by decide)
  rw [show M * 4 + 1 = 4 * M + 1 by omega, this]
  rfl
set_option maxRecDepth 100000 in
set_option maxHeartbeats 4000000 in
theorem fnEqualSums_walk (pdata : Option Addr) (ndata cdata : Nat) (data : Bs) (pcuts : Option Addr) (ncuts ccuts : Nat) (cuts : Bs) (w : World) (hdata : Sl w pdata ndata cdata data) (hndata : ndata ≤ 1048576) (hcuts : Sl w pcuts ncuts ccuts cuts) (hncuts : ncuts ≤ 1048576) :
    Calls Try.prog 7 #[.slice pdata ndata cdata, .slice pcuts ncuts ccuts] w (RetB true w) := by
  have H_data := Lib.hid hdata.len
  have H0data := Lib.hid hdata
  clear hdata
  have H_cuts := Lib.hid hcuts.len
  have H0cuts := Lib.hid hcuts
  clear hcuts
  obtain ⟨i0, hi0, hz0, hz1, hz2⟩ := info_parts infoAP
  go_enter Try.func7, Try.ntmps7
  go_wp2_with fail
  have F0 := Fr.refl [] w
  refine (own_n pdata ndata cdata data _ (H0data.out.keep0 F0) (by omega)).mono ?_
  rintro e w1 ⟨a0, c0, rfl, O, G⟩
  have F1 := F0.trans G
  have S0 := Lib.hid (O.sl_at H_data.out)
  clear O G
  go_wp2_with fail
  refine (implSum224_any _ _ ndata _ data S0.out).mono ?_
  rintro e w2 ⟨g0, rfl, _, B0, G⟩
  have F2 := F1.trans G
  replace B0 := Lib.hid B0
  clear G S0
  go_wp2_with fail
  refine (own_n pdata ndata cdata data _ (H0data.out.keep0 F2) (by omega)).mono ?_
  rintro e w3 ⟨a1, c1, rfl, O, G⟩
  have F3 := F2.trans G
  replace B0 := Lib.hid (BkAt.keep B0.out G (by simp))
  have S1 := Lib.hid (O.sl_at H_data.out)
  clear O G
  go_wp2_with fail
  refine (implSum256_any _ _ ndata _ data S1.out).mono ?_
  rintro e w4 ⟨g1, rfl, _, B1, G⟩
  have F4 := F3.trans G
  replace B0 := Lib.hid (BkAt.keep B0.out G (by simp))
  replace B1 := Lib.hid B1
  clear G S1
  go_wp2_with fail
  refine (own_n pdata ndata cdata data _ (H0data.out.keep0 F4) (by omega)).mono ?_
  rintro e w5 ⟨a2, c2, rfl, O, G⟩
  have F5 := F4.trans G
  replace B0 := Lib.hid (BkAt.keep B0.out G (by simp))
  replace B1 := Lib.hid (BkAt.keep B1.out G (by simp))
  have S2 := Lib.hid (O.sl_at H_data.out)
  clear O G
  go_wp2_with fail
  refine (implSum384_any _ _ ndata _ data S2.out).mono ?_
  rintro e w6 ⟨g2, rfl, _, B2, G⟩
  have F6 := F5.trans G
  replace B0 := Lib.hid (BkAt.keep B0.out G (by simp))
  replace B1 := Lib.hid (BkAt.keep B1.out G (by simp))
  replace B2 := Lib.hid B2
  clear G S2
  go_wp2_with fail
  refine (own_n pdata ndata cdata data _ (H0data.out.keep0 F6) (by omega)).mono ?_
  rintro e w7 ⟨a3, c3, rfl, O, G⟩
  have F7 := F6.trans G
  replace B0 := Lib.hid (BkAt.keep B0.out G (by simp))
  replace B1 := Lib.hid (BkAt.keep B1.out G (by simp))
  replace B2 := Lib.hid (BkAt.keep B2.out G (by simp))
  have S3 := Lib.hid (O.sl_at H_data.out)
  clear O G
  go_wp2_with fail
  refine (implSum512_any _ _ ndata _ data S3.out).mono ?_
  rintro e w8 ⟨g3, rfl, _, B3, G⟩
  have F8 := F7.trans G
  replace B0 := Lib.hid (BkAt.keep B0.out G (by simp))
  replace B1 := Lib.hid (BkAt.keep B1.out G (by simp))
  replace B2 := Lib.hid (BkAt.keep B2.out G (by simp))
  replace B3 := Lib.hid B3
  clear G S3
  go_wp2_with fail
  have GA : Fr [] w8 (w8.alloc (.cells #[.slice (some ⟨g0, 0, none⟩) 28 28, .slice (some ⟨g1, 0, none⟩) 32 32, .slice (some ⟨g2, 0, none⟩) 48 48, .slice (some ⟨g3, 0, none⟩) 64 64] 22)) := (Fr.refl _ _).alloc _
  obtain ⟨gw, hgw⟩ : ∃ gw, gw = w8.heap.size := ⟨_, rfl⟩
  have WA : WhI gw [g0, g1, g2, g3] data (w8.alloc (.cells #[.slice (some ⟨g0, 0, none⟩) 28 28, .slice (some ⟨g1, 0, none⟩) 32 32, .slice (some ⟨g2, 0, none⟩) 48 48, .slice (some ⟨g3, 0, none⟩) 64 64] 22)) := by
    have hb := Go.heap_alloc_new w8 (.cells #[.slice (some ⟨g0, 0, none⟩) 28 28, .slice (some ⟨g1, 0, none⟩) 32 32, .slice (some ⟨g2, 0, none⟩) 48 48, .slice (some ⟨g3, 0, none⟩) 64 64] 22)
    rw [← hgw] at hb
    refine ⟨fun k hk => ?_, fun k hk => ?_⟩
    · rw [cell_of hb]
      obtain rfl | rfl | rfl | rfl : k = 0 ∨ k = 1 ∨ k = 2 ∨ k = 3 := by omega
      all_goals rfl
    · obtain rfl | rfl | rfl | rfl : k = 0 ∨ k = 1 ∨ k = 2 ∨ k = 3 := by omega
      · exact (BkAt.sl B0.out (hsum_length 144 28 data) (by decide)).keep0 GA
      · exact (BkAt.sl B1.out (hsum_length 136 32 data) (by decide)).keep0 GA
      · exact (BkAt.sl B2.out (hsum_length 104 48 data) (by decide)).keep0 GA
      · exact (BkAt.sl B3.out (hsum_length 72 64 data) (by decide)).keep0 GA
  have FA := F8.trans GA
  try rw [← hgw]
  generalize w8.alloc (.cells #[.slice (some ⟨g0, 0, none⟩) 28 28, .slice (some ⟨g1, 0, none⟩) 32 32, .slice (some ⟨g2, 0, none⟩) 48 48, .slice (some ⟨g3, 0, none⟩) 64 64] 22) = wA at WA FA ⊢
  generalize [g0, g1, g2, g3] = gs at WA
  have HGW := Lib.hid hgw
  clear GA B0 B1 B2 B3 hgw F0 F1 F2 F3 F4 F5 F6 F7 F8
  go_wp2_with fail
  go_loopw [24] (fun kv wr => WhRel w gw gs data kv wr) (fun kv _ => 4 - (intOf kv).toNat)
  case atStart => exact ⟨0, by omega, rfl, WA, FA⟩
  case round =>
    clear WA FA
    obtain ⟨k, hk, rfl, W0, F0⟩ := hrel
    by_cases hlt : k < 4
    · obtain ⟨r, hr⟩ : ∃ r, r = rOf k := ⟨_, rfl⟩
      obtain ⟨o, ho⟩ : ∃ o, o = oOf k := ⟨_, rfl⟩
      have hoo := (rt_of k (by omega)).ole
      have hop := o_ge16 k (by omega)
      rw [← ho] at hoo hop
      have q0 := W0.c k hlt
      rw [← ho] at q0
      have HRO := Lib.hid (And.intro hr ho)
      have HW := Lib.hid W0
      obtain ⟨gk, hgk⟩ : ∃ gk, gk = gs.getD k 0 := ⟨_, rfl⟩
      rw [← hgk] at q0
      have HGK := Lib.hid hgk
      have HS0 : Hid (∀ u, WhI gw gs data u → Sl u (some ⟨gk, 0, none⟩) o o (hsum r o data)) := fun u hu => by rw [hgk, hr, ho]; exact hu.s k hlt
      clear hr ho W0 hgk
      go_wp2_with fail
      clear q0
      refine (pieces_any wr pdata pcuts ndata cdata ncuts ccuts data cuts (H0data.out.keep0 F0) (H0cuts.out.keep0 F0) (by omega) (by omega)).mono ?_
      rintro e w1 ⟨ao, co, vs, rfl, A1, Fq⟩
      obtain ⟨M, hM⟩ : ∃ M, M = ncuts + 1 := ⟨_, rfl⟩
      rw [← hM] at A1 ⊢
      have HR := Lib.hid A1
      have bM : M ≤ 1048577 := by omega
      have HM := Lib.hid hM
      have HK := Lib.hid (show ([] : Bs).length = 0 by simp)
      clear A1 hM
      go_wp2_with fail
      refine (lask_any 0 _ 0 _ [] _ (Sl.nil0 _) (by omega)).mono ?_
      rintro e w3 ⟨a3, c3, rfl, O3, f3⟩
      have R3 := Lib.hid (HR.out.keep0 f3)
      have HO3 := Lib.hid (O3.sl_at (n := 0) HK.out)
      have HN3 : Hid (∀ y, a3 = some y → 0 ≠ 0 → ∀ z, ao = some z → y.block ≠ z.block) := (fun y hy _ z hz => by
        have h1 : w1.heap.size ≤ y.block := by subst hy; exact O3.block.2.2.1
        have h2 := (ownsRow_lt HR.out.row (show (Value.slice ao M co).ownBlock = some z.block by rw [hz]; rfl)).2
        omega)
      have F3 := Fq.trans f3
      have Y4 : Hid (Src Try.prog 4 29 (.slice (some ⟨w3.heap.size, 0, none⟩) 1 1) 1 (acCells (⟨1, 0, 0, ([] : Bs)⟩, (a3, 0, c3))) (w3.alloc (.cells #[.int .i64 1, .int .i64 0, .int .i64 0, .slice a3 0 c3] 26))) := Src_act Try.underlying29 ⟨1, 0, 0, ([] : Bs)⟩ (a3, 0, c3) 26
      obtain ⟨XS, hXS⟩ : ∃ XS, XS = ((wrs (pcs data cuts)).zip vs).flatMap acCells := ⟨_, rfl⟩
      obtain ⟨YS, hYS⟩ : ∃ YS, YS = acCells (⟨1, 0, 0, ([] : Bs)⟩, (a3, 0, c3)) := ⟨_, rfl⟩
      have f4 : Fr [] w3 (w3.alloc (.cells #[.int .i64 1, .int .i64 0, .int .i64 0, .slice a3 0 c3] 26)) := (Fr.refl _ _).alloc _
      have O4 : Hid ((w3.alloc (.cells #[.int .i64 1, .int .i64 0, .int .i64 0, .slice a3 0 c3] 26)).ownsRow wr.heap.size 26 4 (.slice ao M co) M XS) := by rw [hXS]; exact (R3.out.keep0 f4).row
      rw [← hYS] at Y4
      have X1 : Hid (M + 1 ≤ maxLen) := by show _ ≤ _; unfold maxLen; omega
      have X2 : Hid ((M + 1) * 48 ≤ 140737488355328) := by show _ ≤ _; omega
      have X3 : Hid (wr.heap.size ≤ (w3.alloc (.cells #[.int .i64 1, .int .i64 0, .int .i64 0, .slice a3 0 c3] 26)).heap.size) := by show _ ≤ _; have := F3.size; simp; omega
      have HXY := Lib.hid (And.intro hXS hYS)
      clear hXS hYS O3 f3
      go_wp2_with (at_builtin; refine wpList_append_srcN _ rfl _ _ 29 29 rfl wr.heap.size 26 i0 (.agg #[.int .i64 0, .int .i64 0, .int .i64 0, .slice none 0 0]) 4 48 Try.underlying29 hi0 hz0 hz1 hz2 rfl ao (M) co XS rfl O4.out _ 1 YS rfl Y4.out X1.out X2.out X3.out ?_)
      intro a5 c5 w5 ho5 hg5 ha5
      have f5 : Fr (blkOf ao) (w3.alloc (.cells #[.int .i64 1, .int .i64 0, .int .i64 0, .slice a3 0 c3] 26)) w5 := by
        rw [← ownBlock_blkOf ao (M) co]
        exact (Fr.refl _ _).grown hg5 (fun q hq => by rw [hq]; exact .inr (by simp))
      have R5 := Lib.hid (R3.out.push (x := ⟨1, 0, 0, ([] : Bs)⟩) (v := (a3, 0, c3)) f4 HO3.out (show 0 ≤ 140737488351232 by omega) HN3.out (by rw [← HXY.out.1, ← HXY.out.2]; exact ho5) hg5 (by simpa using ha5))
      have F5 := Lib.hid ((F3.trans f4).via f5 (fun q hq => by
        obtain ⟨z, hz, e⟩ := mem_blkOf.1 hq
        rw [← e]
        exact (ownsRow_lt R3.out.row (show (Value.slice ao (M) co).ownBlock = some z.block by rw [hz]; rfl)).1))
      have HA5 : Hid (∀ z, a5 = some z → ao = some z ∨ w3.heap.size ≤ z.block) := (fun z hz => by
        have ha5' : a5 = ao ∨ a5 = some ⟨(w3.alloc (.cells #[.int .i64 1, .int .i64 0, .int .i64 0, .slice a3 0 c3] 26)).heap.size, 0, none⟩ := by simpa using ha5
        rcases ha5' with h | h
        · left; rw [← h]; exact hz
        · right; rw [h] at hz; have := Option.some.inj hz; rw [← this]; simp)
      clear ho5 hg5 ha5 f5 f4 F3 O4 Y4 X1 X2 X3 HR R3 HO3 HN3 HXY HA5
      go_wp2_with fail
      refine (runHashes_any w5 (k : Int) a5 (M + 1) c5 _ R5.out.acts (by omega)).mono ?_
      rintro e x1 ⟨q1, d1, v1, rfl, B6, f6⟩
      rw [k5_nat k (by omega), ← HRO.out.1, ← HRO.out.2, runH_ask, pcs_flat, List.nil_append] at B6
      have f19 := F5.out.trans f6
      have HB1 := Lib.hid B6
      have HQ6 := RsI.read B6
      have hcap1 := HQ6.cap
      have hmx1 := HQ6.max
      unfold maxLen at hmx1
      have eM1 : IntKind.i64.wrap (M : Int) = (M : Int) := IntWalk.i64_in _ (by omega)
      clear B6 R5 F5 f6 Fq HQ6 HK
      have G1 := F0.trans f19
      have HW1 := Lib.hid (HW.out.keep f19)
      clear HW F0 f19
      obtain ⟨g, hg, _, _, _⟩ := HB1.out.cells (by omega)
      subst hg
      obtain ⟨V, hV⟩ : ∃ V, V = v1.getD M (none, 0) := ⟨_, rfl⟩
      obtain ⟨RS, hRS⟩ : ∃ RS, RS = wrR (pcs data cuts) ++ [⟨0, hsum r o data, false, false⟩] := ⟨_, rfl⟩
      have eR : RS.getD M ⟨0, [], false, false⟩ = ⟨0, hsum r o data, false, false⟩ := by rw [hRS, getD_last _ _ (by rw [wrR_len, pcs_len, HM.out, H_cuts.out])]
      rw [← hRS] at HB1
      have D0 : EsI gw gs data w w5.heap.size g (M + 1) d1 M RS v1 x1.drew := ⟨HW1.out.keep (Fr.refl _ _).drew, HB1.out.keep (S' := []) (Fr.refl _ _).drew (by simp), G1.drew⟩
      have HC : Hid (∀ u, EsI gw gs data w w5.heap.size g (M + 1) d1 M RS v1 u → u.cell? ⟨g, M * 4 + 1, none⟩ = some (.slice V.1 o V.2) ∧ Sl u V.1 o V.2 (hsum r o data)) := fun u hu => by
        have h1 := hu.cell (by omega)
        have h2 := RsI_sl hu.rs M (by omega)
        rw [eR] at h1 h2
        simp only [hsum_length] at h1 h2
        rw [hV]
        exact ⟨h1, h2⟩
      have HS1 : Hid (∀ u, EsI gw gs data w w5.heap.size g (M + 1) d1 M RS v1 u → Sl u (some ⟨gk, 0, none⟩) o o (hsum r o data)) := fun u hu => HS0.out u hu.wh
      have HS2 : Hid (∀ u, EsI gw gs data w w5.heap.size g (M + 1) d1 M RS v1 u → Sl u (some ⟨gk, 1, none⟩) (o - 1) (o - 1) ((hsum r o data).drop 1)) := fun u hu => by
        have e := Sl_dropP (HS0.out u hu.wh) 1 (by omega) (by omega)
        rwa [Nat.zero_add] at e
      have hne : Hid (¬ hsum r o data = (hsum r o data).drop 1) := fun e => by
        have := congrArg List.length e
        rw [List.length_drop, hsum_length] at this
        omega
      have t1 : (((M : Int) + 1) == (0 : Int)) = false := by simp; omega
      have t2 : ((o : Int) == (0 : Int)) = false := by simp; omega
      have t3 : ¬ o = 1 := by omega
      have t4 : (1 : Int) ≤ (o : Int) := by omega
      have t5 : (M : Int) < (M : Int) + 1 := by omega
      have t6 : (0 : Int) ≤ (M : Int) := by omega
      have tok1 : True := trivial
      have tok2 : True := trivial
      clear hV hRS eR HW1 HB1 G1 HM
      go_wp2_with fail
      go_region_held3 (fun w' => w'.cell? ⟨g, M * 4 + 1, none⟩ = some (.slice V.1 o V.2) ∧ EsI gw gs data w w5.heap.size g (M + 1) d1 M RS v1 w')
        (first | (exact ⟨(HC.out _ D2).1, D2⟩) | (exact ⟨(HC.out _ D1).1, D1⟩) | (exact ⟨(HC.out _ D0).1, D0⟩))
        (first
          | (go_at_call 28; have _t := tok1; refine (equalMACs_t _ _ o o _ _ (hsum r o data) (hsum r o data) _ (HC.out _ D0).2 (HS1.out _ D0) rfl).mono ?_; rintro e u1 ⟨rfl, h1⟩; have D1 := D0.keep h1; clear tok1)
          | (go_at_call 28; have _t := tok2; refine (equalMACs_f _ _ o (o - 1) _ _ (hsum r o data) ((hsum r o data).drop 1) _ (HC.out _ D1).2 (HS2.out _ D1) hne.out).mono ?_; rintro e u2 ⟨rfl, h2⟩; have D2 := D1.keep h2; clear tok2))
      go_wp2_with fail
      all_goals first
        | (exfalso; omega)
        | exact ⟨⟨k + 1, by omega, by simp, D2.wh, D2.fr⟩, by simp [intOf]; omega⟩
    · obtain rfl : k = 4 := by omega
      go_wp2_with fail
      go_ret
      exact ⟨rfl, F0⟩
end Go.Proofs.Ytfgfhdkedmgfiaa
end

section
namespace Go.Proofs.Ytfgfhdkedmgfiaa.rFnEqualSums
open Go.ChangeShapes Go.WideShapes Go.ChangeAt Go.RowKit Go.Sha
set_option linter.unusedVariables false

theorem own : ownKnob Try.prog.godebug = none := by kernel_rfl
theorem laidOut : laidOutB Try.prog = true := by kernel_rfl

set_option maxRecDepth 100000 in
theorem lifted (os : Os) (started : os.Started) (H : Type) (enc : TypeId × Value → H) (F : Stop.Interp) :
    ReturnsInHanded {} Try.checked os 7 .any ((Rows.OpenSpec.upto Rows.fnEqualSumsSpec).pre6 enc Try.prog Try.f7 Rows.fnEqualSumsUptoRow.domain false) (((Rows.OpenSpec.upto Rows.fnEqualSumsSpec).at F).post enc Try.prog Try.f7 false true false false) := by
  refine returnsInHanded_of_cond (C := Try.checked) (s := Rows.OpenSpec.upto Rows.fnEqualSumsSpec) (k := Rows.uptoSmall) rfl own started (by kernel_rfl) Try.func7
    (OpenSpec.witness (enc := enc) (C := Try.checked) (s := Rows.OpenSpec.upto Rows.fnEqualSumsSpec) (k := Rows.uptoSmall) rfl false ⟨#[], #[.slice none 0 0, .slice none 0 0], []⟩ 8 (by kernel_rfl) (by kernel_rfl) (by kernel_rfl)
      (x := ([.nil, .nil], [], [])) (by kernel_rfl) rfl (by kernel_rfl)) ?_
  intro W base args ds gs before hval0 hW hcnd hk _
  have hval : ∀ (j : Nat) t v, Try.f7.params[j]? = some t → args[j]? = some v → Value.okWide Try.prog W .any base t v := hval0
  have hW' := hW
  obtain ⟨p, q, hA0, hV, rfl, hfz, hnd⟩ := hW
  have hA : DataW.TrodAll enc Try.prog W 0 (fun _ => true) true Try.f7.params.toList args.toList ds p := hA0
  rw [Try.params7] at hA hval
  obtain ⟨v0, vs0, d0, ds0, p0, q0, hargs, rfl, rfl, h0, r0⟩ := trodAll_cons hA
  obtain ⟨v1, vs1, d1, ds1, p1, q1, rfl, rfl, rfl, h1, r1⟩ := trodAll_cons r0
  obtain ⟨rfl, rfl, rfl⟩ := trodAll_nil r1
  obtain rfl : args = #[v0, v1] := by cases args; simp_all
  obtain ⟨rfl, rfl⟩ := trodVars_none hV
  simp only [List.append_nil] at hk
  have hbk : Rows.uptoBulkAll [d0, d1] ≤ 1048576 := of_decide_eq_true hk
  simp only [Rows.uptoBulkAll] at hbk
  obtain ⟨a0, len0, cap0, rfl⟩ := okWide_slice Try.underlying22 (hval 0 22 v0 rfl rfl)
  have k0 := h0
  have lt0 : ∀ x ∈ p0, x.block < W.heap.size := by obtain ⟨m, hm⟩ := k0; exact DataW.trod_lt m _ _ _ hm
  obtain ⟨fuel0, hf0⟩ := h0
  obtain ⟨l0, s0, dl0⟩ := open_bytes Try.underlying22 Try.underlying5 (by kernel_rfl) hf0
  have b0 := DLen_bulk dl0
  obtain ⟨a1, len1, cap1, rfl⟩ := okWide_slice Try.underlying22 (hval 1 22 v1 rfl rfl)
  have k1 := h1
  have lt1 : ∀ x ∈ p1, x.block < W.heap.size := by obtain ⟨m, hm⟩ := k1; exact DataW.trod_lt m _ _ _ hm
  obtain ⟨fuel1, hf1⟩ := h1
  obtain ⟨l1, s1, dl1⟩ := open_bytes Try.underlying22 Try.underlying5 (by kernel_rfl) hf1
  have b1 := DLen_bulk dl1
  clear hA0 hval0
  refine (fnEqualSums_walk a0 len0 cap0 l0 a1 len1 cap1 l1 W s0 (by omega) s1 (by omega)).mono fun e W' ⟨he, hfr⟩ => ?_
  have bel := hfr.below
  subst he
  exact ⟨_, rfl, _, _, _, [], _, [], hW', trodAll_mk1 (shut_bool Try.underlying4 _), (trodAll_cons_mk (Below.trod laidOut (by kernel_rfl) (of_decide_eq_true (by kernel_rfl)) k0 bel lt0) (trodAll_cons_mk (Below.trod laidOut (by kernel_rfl) (of_decide_eq_true (by kernel_rfl)) k1 bel lt1) trodAll_mk0)), rfl, bel.frame _, fun h => by cases h⟩

theorem proved : Rows.FnEqualSumsUptoSaid :=
  OpenClaim.holds_of_cond 7 Try.f7 rfl rfl rfl rfl rfl rfl rfl ⟨rfl, rfl, rfl, rfl, rfl⟩ rfl rfl rfl rfl rfl (by kernel_rfl) Try.func7 (by kernel_rfl)
    (of_decide_eq_true (by kernel_rfl)) (by unfold Func.isWrapper; first | (rw [if_pos (by decide +kernel)]; kernel_rfl) | (rw [if_neg (by decide +kernel)]; exact ⟨rfl, rfl⟩))
    (fun os started H enc _ F => lifted os started H enc F)
#print axioms proved
end Go.Proofs.Ytfgfhdkedmgfiaa.rFnEqualSums
namespace Go.Proofs.Ytfgfhdkedmgfiaa
theorem fnEqualSums_holds : Rows.FnEqualSumsUptoSaid := rFnEqualSums.proved
end Go.Proofs.Ytfgfhdkedmgfiaa
end
