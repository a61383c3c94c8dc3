/- FnCutsAgree: for every input of bulk at most 1048576 the law returns true, and each argument reads afterwards as it read before. The bound on the bulk is the given one. -/
import Derived.Test.YtfgfhdkedmgfiaaGA
import Derived.Test.YtfgfhdkedmgfiaaGB
import Derived.Test.YtfgfhdkedmgfiaaGC
import Derived.Test.YtfgfhdkedmgfiaaGG
import Derived.Test.YtfgfhdkedmgfiaaGH
import Derived.Test.YtfgfhdkedmgfiaaGN
import Derived.Test.YtfgfhdkedmgfiaaGS
import Derived.Test.YtfgfhdkedmgfiaaGT
import Derived.Test.YtfgfhdkedmgfiaaGU
import Derived.Test.YtfgfhdkedmgfiaaGO
import Derived.Test.YtfgfhdkedmgfiaaGP
import Derived.Test.YtfgfhdkedmgfiaaGI
import Derived.Test.YtfgfhdkedmgfiaaGK
import Derived.Test.YtfgfhdkedmgfiaaGV
import Derived.Test.YtfgfhdkedmgfiaaGL
import Derived.Test.YtfgfhdkedmgfiaaGJ
import Derived.Below
import Derived.ChangeOld
import Derived.ShutString
section
namespace Go.Proofs.Ytfgfhdkedmgfiaa
open Go.ChangeShapes Go.WideShapes Go.ChangeAt Go.RowKit Go.Sha
/-- the four sums of bytes, and the list of them -/
structure WhI (gw : Nat) (gs : List Nat) (data : Bs) (w : World) : Prop where
  c : ∀ k, k < 4 → w.cell? ⟨gw, k, none⟩ = some (.slice (some ⟨gs.getD k 0, 0, none⟩) (oOf k) (oOf k))
  s : ∀ k, k < 4 → Sl w (some ⟨gs.getD k 0, 0, none⟩) (oOf k) (oOf k) (hsum (rOf k) (oOf k) data)
theorem WhI.keep {gw : Nat} {gs : List Nat} {data : Bs} {w w' : World} (h : WhI gw gs data w) (f : Fr [] w w') : WhI gw gs data w' :=
  ⟨fun k hk => f.cell (h.c k hk) (by simp), fun k hk => (h.s k hk).keep0 f⟩
theorem o_ge16 : ∀ k, k < 5 → 16 ≤ oOf k := by decide
theorem k5_nat (k : Nat) (h : k < 5) : k5 (k : Int) = k := by unfold k5; omega
def WhRel (w : World) (gw : Nat) (gs : List Nat) (data : Bs) (kv : Value) (wr : World) : Prop := ∃ k : Nat, k ≤ 4 ∧ kv = .int .i64 ((k : Nat) : Int) ∧ WhI gw gs data wr ∧ Fr [] w wr
set_option maxRecDepth 100000 in
set_option maxHeartbeats 4000000 in
theorem fnCutsAgree_walk (pdata : Option Addr) (ndata cdata : Nat) (data : Bs) (pcuts : Option Addr) (ncuts ccuts : Nat) (cuts : Bs) (pothers : Option Addr) (nothers cothers : Nat) (others : Bs) (w : World) (hdata : Sl w pdata ndata cdata data) (hndata : ndata ≤ 1048576) (hcuts : Sl w pcuts ncuts ccuts cuts) (hncuts : ncuts ≤ 1048576) (hothers : Sl w pothers nothers cothers others) (hnothers : nothers ≤ 1048576) :
    Calls Try.prog 6 #[.slice pdata ndata cdata, .slice pcuts ncuts ccuts, .slice pothers nothers cothers] w (RetB true w) := by
  have H_data := Lib.hid hdata.len
  have H0data := Lib.hid hdata
  clear hdata
  have H_cuts := Lib.hid hcuts.len
  have H0cuts := Lib.hid hcuts
  clear hcuts
  have H_others := Lib.hid hothers.len
  have H0others := Lib.hid hothers
  clear hothers
  obtain ⟨i0, hi0, hz0, hz1, hz2⟩ := info_parts infoAP
  go_enter Try.func6, Try.ntmps6
  go_wp2_with fail
  have F0 := Fr.refl [] w
  refine (own_n pdata ndata cdata data _ (H0data.out.keep0 F0) (by omega)).mono ?_
  rintro e w1 ⟨a0, c0, rfl, O, G⟩
  have F1 := F0.trans G
  have S0 := Lib.hid (O.sl_at H_data.out)
  clear O G
  go_wp2_with fail
  refine (implSum224_any _ _ ndata _ data S0.out).mono ?_
  rintro e w2 ⟨g0, rfl, _, B0, G⟩
  have F2 := F1.trans G
  replace B0 := Lib.hid B0
  clear G S0
  go_wp2_with fail
  refine (own_n pdata ndata cdata data _ (H0data.out.keep0 F2) (by omega)).mono ?_
  rintro e w3 ⟨a1, c1, rfl, O, G⟩
  have F3 := F2.trans G
  replace B0 := Lib.hid (BkAt.keep B0.out G (by simp))
  have S1 := Lib.hid (O.sl_at H_data.out)
  clear O G
  go_wp2_with fail
  refine (implSum256_any _ _ ndata _ data S1.out).mono ?_
  rintro e w4 ⟨g1, rfl, _, B1, G⟩
  have F4 := F3.trans G
  replace B0 := Lib.hid (BkAt.keep B0.out G (by simp))
  replace B1 := Lib.hid B1
  clear G S1
  go_wp2_with fail
  refine (own_n pdata ndata cdata data _ (H0data.out.keep0 F4) (by omega)).mono ?_
  rintro e w5 ⟨a2, c2, rfl, O, G⟩
  have F5 := F4.trans G
  replace B0 := Lib.hid (BkAt.keep B0.out G (by simp))
  replace B1 := Lib.hid (BkAt.keep B1.out G (by simp))
  have S2 := Lib.hid (O.sl_at H_data.out)
  clear O G
  go_wp2_with fail
  refine (implSum384_any _ _ ndata _ data S2.out).mono ?_
  rintro e w6 ⟨g2, rfl, _, B2, G⟩
  have F6 := F5.trans G
  replace B0 := Lib.hid (BkAt.keep B0.out G (by simp))
  replace B1 := Lib.hid (BkAt.keep B1.out G (by simp))
  replace B2 := Lib.hid B2
  clear G S2
  go_wp2_with fail
  refine (own_n pdata ndata cdata data _ (H0data.out.keep0 F6) (by omega)).mono ?_
  rintro e w7 ⟨a3, c3, rfl, O, G⟩
  have F7 := F6.trans G
  replace B0 := Lib.hid (BkAt.keep B0.out G (by simp))
  replace B1 := Lib.hid (BkAt.keep B1.out G (by simp))
  replace B2 := Lib.hid (BkAt.keep B2.out G (by simp))
  have S3 := Lib.hid (O.sl_at H_data.out)
  clear O G
  go_wp2_with fail
  refine (implSum512_any _ _ ndata _ data S3.out).mono ?_
  rintro e w8 ⟨g3, rfl, _, B3, G⟩
  have F8 := F7.trans G
  replace B0 := Lib.hid (BkAt.keep B0.out G (by simp))
  replace B1 := Lib.hid (BkAt.keep B1.out G (by simp))
  replace B2 := Lib.hid (BkAt.keep B2.out G (by simp))
  replace B3 := Lib.hid B3
  clear G S3
  go_wp2_with fail
  have GA : Fr [] w8 (w8.alloc (.cells #[.slice (some ⟨g0, 0, none⟩) 28 28, .slice (some ⟨g1, 0, none⟩) 32 32, .slice (some ⟨g2, 0, none⟩) 48 48, .slice (some ⟨g3, 0, none⟩) 64 64] 22)) := (Fr.refl _ _).alloc _
  obtain ⟨gw, hgw⟩ : ∃ gw, gw = w8.heap.size := ⟨_, rfl⟩
  have WA : WhI gw [g0, g1, g2, g3] data (w8.alloc (.cells #[.slice (some ⟨g0, 0, none⟩) 28 28, .slice (some ⟨g1, 0, none⟩) 32 32, .slice (some ⟨g2, 0, none⟩) 48 48, .slice (some ⟨g3, 0, none⟩) 64 64] 22)) := by
    have hb := Go.heap_alloc_new w8 (.cells #[.slice (some ⟨g0, 0, none⟩) 28 28, .slice (some ⟨g1, 0, none⟩) 32 32, .slice (some ⟨g2, 0, none⟩) 48 48, .slice (some ⟨g3, 0, none⟩) 64 64] 22)
    rw [← hgw] at hb
    refine ⟨fun k hk => ?_, fun k hk => ?_⟩
    · rw [cell_of hb]
      obtain rfl | rfl | rfl | rfl : k = 0 ∨ k = 1 ∨ k = 2 ∨ k = 3 := by omega
      all_goals rfl
    · obtain rfl | rfl | rfl | rfl : k = 0 ∨ k = 1 ∨ k = 2 ∨ k = 3 := by omega
      · exact (BkAt.sl B0.out (hsum_length 144 28 data) (by decide)).keep0 GA
      · exact (BkAt.sl B1.out (hsum_length 136 32 data) (by decide)).keep0 GA
      · exact (BkAt.sl B2.out (hsum_length 104 48 data) (by decide)).keep0 GA
      · exact (BkAt.sl B3.out (hsum_length 72 64 data) (by decide)).keep0 GA
  have FA := F8.trans GA
  try rw [← hgw]
  generalize w8.alloc (.cells #[.slice (some ⟨g0, 0, none⟩) 28 28, .slice (some ⟨g1, 0, none⟩) 32 32, .slice (some ⟨g2, 0, none⟩) 48 48, .slice (some ⟨g3, 0, none⟩) 64 64] 22) = wA at WA FA ⊢
  generalize [g0, g1, g2, g3] = gs at WA
  have HGW := Lib.hid hgw
  clear GA B0 B1 B2 B3 hgw F0 F1 F2 F3 F4 F5 F6 F7 F8
  go_wp2_with fail
  go_loopw [27] (fun kv wr => WhRel w gw gs data kv wr) (fun kv _ => 4 - (intOf kv).toNat)
  case atStart => exact ⟨0, by omega, rfl, WA, FA⟩
  case round =>
    clear WA FA
    obtain ⟨k, hk, rfl, W0, F0⟩ := hrel
    by_cases hlt : k < 4
    · obtain ⟨r, hr⟩ : ∃ r, r = rOf k := ⟨_, rfl⟩
      obtain ⟨o, ho⟩ : ∃ o, o = oOf k := ⟨_, rfl⟩
      have hoo := (rt_of k (by omega)).ole
      have hop := o_ge16 k (by omega)
      rw [← ho] at hoo hop
      have q0 := W0.c k hlt
      rw [← ho] at q0
      have HRO := Lib.hid (And.intro hr ho)
      have HW := Lib.hid W0
      obtain ⟨gk, hgk⟩ : ∃ gk, gk = gs.getD k 0 := ⟨_, rfl⟩
      rw [← hgk] at q0
      have HGK := Lib.hid hgk
      have HS0 : Hid (∀ u, WhI gw gs data u → Sl u (some ⟨gk, 0, none⟩) o o (hsum r o data)) := fun u hu => by rw [hgk, hr, ho]; exact hu.s k hlt
      clear hr ho W0 hgk
      go_wp2_with fail
      clear q0
      refine (pieces_any wr pdata pcuts ndata cdata ncuts ccuts data cuts (H0data.out.keep0 F0) (H0cuts.out.keep0 F0) (by omega) (by omega)).mono ?_
      rintro e w1 ⟨ao, co, vs, rfl, A1, Fq⟩
      obtain ⟨M, hM⟩ : ∃ M, M = ncuts + 1 := ⟨_, rfl⟩
      rw [← hM] at A1 ⊢
      have HR := Lib.hid A1
      have bM : M ≤ 1048577 := by omega
      have HM := Lib.hid hM
      have HK := Lib.hid (show ([] : Bs).length = 0 by simp)
      clear A1 hM
      go_wp2_with fail
      refine (lask_any 0 _ 0 _ [] _ (Sl.nil0 _) (by omega)).mono ?_
      rintro e w3 ⟨a3, c3, rfl, O3, f3⟩
      have R3 := Lib.hid (HR.out.keep0 f3)
      have HO3 := Lib.hid (O3.sl_at (n := 0) HK.out)
      have HN3 : Hid (∀ y, a3 = some y → 0 ≠ 0 → ∀ z, ao = some z → y.block ≠ z.block) := (fun y hy _ z hz => by
        have h1 : w1.heap.size ≤ y.block := by subst hy; exact O3.block.2.2.1
        have h2 := (ownsRow_lt HR.out.row (show (Value.slice ao M co).ownBlock = some z.block by rw [hz]; rfl)).2
        omega)
      have F3 := Fq.trans f3
      have Y4 : Hid (Src Try.prog 4 29 (.slice (some ⟨w3.heap.size, 0, none⟩) 1 1) 1 (acCells (⟨1, 0, 0, ([] : Bs)⟩, (a3, 0, c3))) (w3.alloc (.cells #[.int .i64 1, .int .i64 0, .int .i64 0, .slice a3 0 c3] 26))) := Src_act Try.underlying29 ⟨1, 0, 0, ([] : Bs)⟩ (a3, 0, c3) 26
      obtain ⟨XS, hXS⟩ : ∃ XS, XS = ((wrs (pcs data cuts)).zip vs).flatMap acCells := ⟨_, rfl⟩
      obtain ⟨YS, hYS⟩ : ∃ YS, YS = acCells (⟨1, 0, 0, ([] : Bs)⟩, (a3, 0, c3)) := ⟨_, rfl⟩
      have f4 : Fr [] w3 (w3.alloc (.cells #[.int .i64 1, .int .i64 0, .int .i64 0, .slice a3 0 c3] 26)) := (Fr.refl _ _).alloc _
      have O4 : Hid ((w3.alloc (.cells #[.int .i64 1, .int .i64 0, .int .i64 0, .slice a3 0 c3] 26)).ownsRow wr.heap.size 26 4 (.slice ao M co) M XS) := by rw [hXS]; exact (R3.out.keep0 f4).row
      rw [← hYS] at Y4
      have X1 : Hid (M + 1 ≤ maxLen) := by show _ ≤ _; unfold maxLen; omega
      have X2 : Hid ((M + 1) * 48 ≤ 140737488355328) := by show _ ≤ _; omega
      have X3 : Hid (wr.heap.size ≤ (w3.alloc (.cells #[.int .i64 1, .int .i64 0, .int .i64 0, .slice a3 0 c3] 26)).heap.size) := by show _ ≤ _; have := F3.size; simp; omega
      have HXY := Lib.hid (And.intro hXS hYS)
      clear hXS hYS O3 f3
      go_wp2_with (at_builtin; refine wpList_append_srcN _ rfl _ _ 29 29 rfl wr.heap.size 26 i0 (.agg #[.int .i64 0, .int .i64 0, .int .i64 0, .slice none 0 0]) 4 48 Try.underlying29 hi0 hz0 hz1 hz2 rfl ao (M) co XS rfl O4.out _ 1 YS rfl Y4.out X1.out X2.out X3.out ?_)
      intro a5 c5 w5 ho5 hg5 ha5
      have f5 : Fr (blkOf ao) (w3.alloc (.cells #[.int .i64 1, .int .i64 0, .int .i64 0, .slice a3 0 c3] 26)) w5 := by
        rw [← ownBlock_blkOf ao (M) co]
        exact (Fr.refl _ _).grown hg5 (fun q hq => by rw [hq]; exact .inr (by simp))
      have R5 := Lib.hid (R3.out.push (x := ⟨1, 0, 0, ([] : Bs)⟩) (v := (a3, 0, c3)) f4 HO3.out (show 0 ≤ 140737488351232 by omega) HN3.out (by rw [← HXY.out.1, ← HXY.out.2]; exact ho5) hg5 (by simpa using ha5))
      have F5 := Lib.hid ((F3.trans f4).via f5 (fun q hq => by
        obtain ⟨z, hz, e⟩ := mem_blkOf.1 hq
        rw [← e]
        exact (ownsRow_lt R3.out.row (show (Value.slice ao (M) co).ownBlock = some z.block by rw [hz]; rfl)).1))
      have HA5 : Hid (∀ z, a5 = some z → ao = some z ∨ w3.heap.size ≤ z.block) := (fun z hz => by
        have ha5' : a5 = ao ∨ a5 = some ⟨(w3.alloc (.cells #[.int .i64 1, .int .i64 0, .int .i64 0, .slice a3 0 c3] 26)).heap.size, 0, none⟩ := by simpa using ha5
        rcases ha5' with h | h
        · left; rw [← h]; exact hz
        · right; rw [h] at hz; have := Option.some.inj hz; rw [← this]; simp)
      clear ho5 hg5 ha5 f5 f4 F3 O4 Y4 X1 X2 X3 HR R3 HO3 HN3 HXY HA5
      go_wp2_with fail
      refine (runHashes_any w5 (k : Int) a5 (M + 1) c5 _ R5.out.acts (by omega)).mono ?_
      rintro e x1 ⟨q1, d1, v1, rfl, B6, f6⟩
      rw [k5_nat k (by omega), ← HRO.out.1, ← HRO.out.2, runH_ask, pcs_flat, List.nil_append] at B6
      have f19 := F5.out.trans f6
      have HB1 := Lib.hid B6
      have HQ6 := RsI.read B6
      have hcap1 := HQ6.cap
      have hmx1 := HQ6.max
      unfold maxLen at hmx1
      have eM1 : IntKind.i64.wrap (M : Int) = (M : Int) := IntWalk.i64_in _ (by omega)
      clear B6 R5 F5 f6 Fq HQ6 HK
      have G1 := F0.trans f19
      have HW1 := Lib.hid (HW.out.keep f19)
      clear HW F0 f19
      go_wp2_with fail
      refine (pieces_any x1 pdata pothers ndata cdata nothers cothers data others (H0data.out.keep0 G1) (H0others.out.keep0 G1) (by omega) (by omega)).mono ?_
      rintro e w1 ⟨ao, co, vs, rfl, A1, Fq⟩
      obtain ⟨M2, hM2⟩ : ∃ M2, M2 = nothers + 1 := ⟨_, rfl⟩
      rw [← hM2] at A1 ⊢
      have HR := Lib.hid A1
      have bM2 : M2 ≤ 1048577 := by omega
      have HM2 := Lib.hid hM2
      have HK := Lib.hid (show ([] : Bs).length = 0 by simp)
      clear A1 hM2
      go_wp2_with fail
      refine (lask_any 0 _ 0 _ [] _ (Sl.nil0 _) (by omega)).mono ?_
      rintro e w3 ⟨a3, c3, rfl, O3, f3⟩
      have R3 := Lib.hid (HR.out.keep0 f3)
      have HO3 := Lib.hid (O3.sl_at (n := 0) HK.out)
      have HN3 : Hid (∀ y, a3 = some y → 0 ≠ 0 → ∀ z, ao = some z → y.block ≠ z.block) := (fun y hy _ z hz => by
        have h1 : w1.heap.size ≤ y.block := by subst hy; exact O3.block.2.2.1
        have h2 := (ownsRow_lt HR.out.row (show (Value.slice ao M2 co).ownBlock = some z.block by rw [hz]; rfl)).2
        omega)
      have F3 := Fq.trans f3
      have Y4 : Hid (Src Try.prog 4 29 (.slice (some ⟨w3.heap.size, 0, none⟩) 1 1) 1 (acCells (⟨1, 0, 0, ([] : Bs)⟩, (a3, 0, c3))) (w3.alloc (.cells #[.int .i64 1, .int .i64 0, .int .i64 0, .slice a3 0 c3] 26))) := Src_act Try.underlying29 ⟨1, 0, 0, ([] : Bs)⟩ (a3, 0, c3) 26
      obtain ⟨XS, hXS⟩ : ∃ XS, XS = ((wrs (pcs data others)).zip vs).flatMap acCells := ⟨_, rfl⟩
      obtain ⟨YS, hYS⟩ : ∃ YS, YS = acCells (⟨1, 0, 0, ([] : Bs)⟩, (a3, 0, c3)) := ⟨_, rfl⟩
      have f4 : Fr [] w3 (w3.alloc (.cells #[.int .i64 1, .int .i64 0, .int .i64 0, .slice a3 0 c3] 26)) := (Fr.refl _ _).alloc _
      have O4 : Hid ((w3.alloc (.cells #[.int .i64 1, .int .i64 0, .int .i64 0, .slice a3 0 c3] 26)).ownsRow x1.heap.size 26 4 (.slice ao M2 co) M2 XS) := by rw [hXS]; exact (R3.out.keep0 f4).row
      rw [← hYS] at Y4
      have X1 : Hid (M2 + 1 ≤ maxLen) := by show _ ≤ _; unfold maxLen; omega
      have X2 : Hid ((M2 + 1) * 48 ≤ 140737488355328) := by show _ ≤ _; omega
      have X3 : Hid (x1.heap.size ≤ (w3.alloc (.cells #[.int .i64 1, .int .i64 0, .int .i64 0, .slice a3 0 c3] 26)).heap.size) := by show _ ≤ _; have := F3.size; simp; omega
      have HXY := Lib.hid (And.intro hXS hYS)
      clear hXS hYS O3 f3
      go_wp2_with (at_builtin; refine wpList_append_srcN _ rfl _ _ 29 29 rfl x1.heap.size 26 i0 (.agg #[.int .i64 0, .int .i64 0, .int .i64 0, .slice none 0 0]) 4 48 Try.underlying29 hi0 hz0 hz1 hz2 rfl ao (M2) co XS rfl O4.out _ 1 YS rfl Y4.out X1.out X2.out X3.out ?_)
      intro a5 c5 w5 ho5 hg5 ha5
      have f5 : Fr (blkOf ao) (w3.alloc (.cells #[.int .i64 1, .int .i64 0, .int .i64 0, .slice a3 0 c3] 26)) w5 := by
        rw [← ownBlock_blkOf ao (M2) co]
        exact (Fr.refl _ _).grown hg5 (fun q hq => by rw [hq]; exact .inr (by simp))
      have R5 := Lib.hid (R3.out.push (x := ⟨1, 0, 0, ([] : Bs)⟩) (v := (a3, 0, c3)) f4 HO3.out (show 0 ≤ 140737488351232 by omega) HN3.out (by rw [← HXY.out.1, ← HXY.out.2]; exact ho5) hg5 (by simpa using ha5))
      have F5 := Lib.hid ((F3.trans f4).via f5 (fun q hq => by
        obtain ⟨z, hz, e⟩ := mem_blkOf.1 hq
        rw [← e]
        exact (ownsRow_lt R3.out.row (show (Value.slice ao (M2) co).ownBlock = some z.block by rw [hz]; rfl)).1))
      have HA5 : Hid (∀ z, a5 = some z → ao = some z ∨ w3.heap.size ≤ z.block) := (fun z hz => by
        have ha5' : a5 = ao ∨ a5 = some ⟨(w3.alloc (.cells #[.int .i64 1, .int .i64 0, .int .i64 0, .slice a3 0 c3] 26)).heap.size, 0, none⟩ := by simpa using ha5
        rcases ha5' with h | h
        · left; rw [← h]; exact hz
        · right; rw [h] at hz; have := Option.some.inj hz; rw [← this]; simp)
      clear ho5 hg5 ha5 f5 f4 F3 O4 Y4 X1 X2 X3 HR R3 HO3 HN3 HXY HA5
      go_wp2_with fail
      refine (runHashes_any w5 (k : Int) a5 (M2 + 1) c5 _ R5.out.acts (by omega)).mono ?_
      rintro e x2 ⟨q2, d2, v2, rfl, B6, f6⟩
      rw [k5_nat k (by omega), ← HRO.out.1, ← HRO.out.2, runH_ask, pcs_flat, List.nil_append] at B6
      have f29 := F5.out.trans f6
      have HB2 := Lib.hid B6
      have HQ6 := RsI.read B6
      have hcap2 := HQ6.cap
      have hmx2 := HQ6.max
      unfold maxLen at hmx2
      have eM2 : IntKind.i64.wrap (M2 : Int) = (M2 : Int) := IntWalk.i64_in _ (by omega)
      clear B6 R5 F5 f6 Fq HQ6 HK
      have G2 := G1.trans f29
      have HW2 := Lib.hid (HW1.out.keep f29)
      have HB3 := Lib.hid (HB1.out.keep (S' := []) f29 (by simp))
      clear HW1 G1 f29 HB1
      have to : ((o : Int) != (o : Int)) = false := by simp
      go_wp2_with fail
      refine (tells_t x2 _ [] q1 (M + 1) d1 _ v1 M _ _ _ (hsum r o data) HB3.out (by omega) (HS0.out _ HW2.out) (by rw [getD_last _ _ (by rw [wrR_len, pcs_len, HM.out, H_cuts.out])])).mono ?_
      rintro e u1 ⟨rfl, h1⟩
      have HW3 := Lib.hid (HW2.out.keep h1)
      have HB4 := Lib.hid (HB2.out.keep (S' := []) h1 (by simp))
      clear HW2 HB2 HB3
      go_wp2_with fail
      refine (tells_t u1 _ [] q2 (M2 + 1) d2 _ v2 M2 _ _ _ (hsum r o data) HB4.out (by omega) (HS0.out _ HW3.out) (by rw [getD_last _ _ (by rw [wrR_len, pcs_len, HM2.out, H_others.out])])).mono ?_
      rintro e u2 ⟨rfl, h2⟩
      have HW4 := Lib.hid (HW3.out.keep h2)
      clear HW3 HB4
      go_wp2_with fail
      refine (sizes_sz _).mono ?_
      rintro e u3 ⟨gz, rfl, _, hz, h3⟩
      have qz := hz.cell k (by omega)
      rw [← HRO.out.2] at qz
      have HW5 := Lib.hid (HW4.out.keep h3)
      clear hz HW4
      go_wp2_with fail
      all_goals first
        | (exfalso; omega)
        | exact ⟨⟨k + 1, by omega, by simp, HW5.out, ((G2.trans h1).trans h2).trans h3⟩, by simp [intOf]; omega⟩
    · obtain rfl : k = 4 := by omega
      go_wp2_with fail
      go_ret
      exact ⟨rfl, F0⟩
end Go.Proofs.Ytfgfhdkedmgfiaa
end

section
namespace Go.Proofs.Ytfgfhdkedmgfiaa.rFnCutsAgree
open Go.ChangeShapes Go.WideShapes Go.ChangeAt Go.RowKit Go.Sha
set_option linter.unusedVariables false

theorem own : ownKnob Try.prog.godebug = none := by kernel_rfl
theorem laidOut : laidOutB Try.prog = true := by kernel_rfl

set_option maxRecDepth 100000 in
theorem lifted (os : Os) (started : os.Started) (H : Type) (enc : TypeId × Value → H) (F : Stop.Interp) :
    ReturnsInHanded {} Try.checked os 6 .any ((Rows.OpenSpec.upto Rows.fnCutsAgreeSpec).pre6 enc Try.prog Try.f6 Rows.fnCutsAgreeUptoRow.domain false) (((Rows.OpenSpec.upto Rows.fnCutsAgreeSpec).at F).post enc Try.prog Try.f6 false true false false) := by
  refine returnsInHanded_of_cond (C := Try.checked) (s := Rows.OpenSpec.upto Rows.fnCutsAgreeSpec) (k := Rows.uptoSmall) rfl own started (by kernel_rfl) Try.func6
    (OpenSpec.witness (enc := enc) (C := Try.checked) (s := Rows.OpenSpec.upto Rows.fnCutsAgreeSpec) (k := Rows.uptoSmall) rfl false ⟨#[], #[.slice none 0 0, .slice none 0 0, .slice none 0 0], []⟩ 8 (by kernel_rfl) (by kernel_rfl) (by kernel_rfl)
      (x := ([.nil, .nil, .nil], [], [])) (by kernel_rfl) rfl (by kernel_rfl)) ?_
  intro W base args ds gs before hval0 hW hcnd hk _
  have hval : ∀ (j : Nat) t v, Try.f6.params[j]? = some t → args[j]? = some v → Value.okWide Try.prog W .any base t v := hval0
  have hW' := hW
  obtain ⟨p, q, hA0, hV, rfl, hfz, hnd⟩ := hW
  have hA : DataW.TrodAll enc Try.prog W 0 (fun _ => true) true Try.f6.params.toList args.toList ds p := hA0
  rw [Try.params6] at hA hval
  obtain ⟨v0, vs0, d0, ds0, p0, q0, hargs, rfl, rfl, h0, r0⟩ := trodAll_cons hA
  obtain ⟨v1, vs1, d1, ds1, p1, q1, rfl, rfl, rfl, h1, r1⟩ := trodAll_cons r0
  obtain ⟨v2, vs2, d2, ds2, p2, q2, rfl, rfl, rfl, h2, r2⟩ := trodAll_cons r1
  obtain ⟨rfl, rfl, rfl⟩ := trodAll_nil r2
  obtain rfl : args = #[v0, v1, v2] := by cases args; simp_all
  obtain ⟨rfl, rfl⟩ := trodVars_none hV
  simp only [List.append_nil] at hk
  have hbk : Rows.uptoBulkAll [d0, d1, d2] ≤ 1048576 := of_decide_eq_true hk
  simp only [Rows.uptoBulkAll] at hbk
  obtain ⟨a0, len0, cap0, rfl⟩ := okWide_slice Try.underlying22 (hval 0 22 v0 rfl rfl)
  have k0 := h0
  have lt0 : ∀ x ∈ p0, x.block < W.heap.size := by obtain ⟨m, hm⟩ := k0; exact DataW.trod_lt m _ _ _ hm
  obtain ⟨fuel0, hf0⟩ := h0
  obtain ⟨l0, s0, dl0⟩ := open_bytes Try.underlying22 Try.underlying5 (by kernel_rfl) hf0
  have b0 := DLen_bulk dl0
  obtain ⟨a1, len1, cap1, rfl⟩ := okWide_slice Try.underlying22 (hval 1 22 v1 rfl rfl)
  have k1 := h1
  have lt1 : ∀ x ∈ p1, x.block < W.heap.size := by obtain ⟨m, hm⟩ := k1; exact DataW.trod_lt m _ _ _ hm
  obtain ⟨fuel1, hf1⟩ := h1
  obtain ⟨l1, s1, dl1⟩ := open_bytes Try.underlying22 Try.underlying5 (by kernel_rfl) hf1
  have b1 := DLen_bulk dl1
  obtain ⟨a2, len2, cap2, rfl⟩ := okWide_slice Try.underlying22 (hval 2 22 v2 rfl rfl)
  have k2 := h2
  have lt2 : ∀ x ∈ p2, x.block < W.heap.size := by obtain ⟨m, hm⟩ := k2; exact DataW.trod_lt m _ _ _ hm
  obtain ⟨fuel2, hf2⟩ := h2
  obtain ⟨l2, s2, dl2⟩ := open_bytes Try.underlying22 Try.underlying5 (by kernel_rfl) hf2
  have b2 := DLen_bulk dl2
  clear hA0 hval0
  refine (fnCutsAgree_walk a0 len0 cap0 l0 a1 len1 cap1 l1 a2 len2 cap2 l2 W s0 (by omega) s1 (by omega) s2 (by omega)).mono fun e W' ⟨he, hfr⟩ => ?_
  have bel := hfr.below
  subst he
  exact ⟨_, rfl, _, _, _, [], _, [], hW', trodAll_mk1 (shut_bool Try.underlying4 _), (trodAll_cons_mk (Below.trod laidOut (by kernel_rfl) (of_decide_eq_true (by kernel_rfl)) k0 bel lt0) (trodAll_cons_mk (Below.trod laidOut (by kernel_rfl) (of_decide_eq_true (by kernel_rfl)) k1 bel lt1) (trodAll_cons_mk (Below.trod laidOut (by kernel_rfl) (of_decide_eq_true (by kernel_rfl)) k2 bel lt2) trodAll_mk0))), rfl, bel.frame _, fun h => by cases h⟩

theorem proved : Rows.FnCutsAgreeUptoSaid :=
  OpenClaim.holds_of_cond 6 Try.f6 rfl rfl rfl rfl rfl rfl rfl ⟨rfl, rfl, rfl, rfl, rfl⟩ rfl rfl rfl rfl rfl (by kernel_rfl) Try.func6 (by kernel_rfl)
    (of_decide_eq_true (by kernel_rfl)) (by unfold Func.isWrapper; first | (rw [if_pos (by decide +kernel)]; kernel_rfl) | (rw [if_neg (by decide +kernel)]; exact ⟨rfl, rfl⟩))
    (fun os started H enc _ F => lifted os started H enc F)
#print axioms proved
end Go.Proofs.Ytfgfhdkedmgfiaa.rFnCutsAgree
namespace Go.Proofs.Ytfgfhdkedmgfiaa
theorem fnCutsAgree_holds : Rows.FnCutsAgreeUptoSaid := rFnCutsAgree.proved
end Go.Proofs.Ytfgfhdkedmgfiaa
end
