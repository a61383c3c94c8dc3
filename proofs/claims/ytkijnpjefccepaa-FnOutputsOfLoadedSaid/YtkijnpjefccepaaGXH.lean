/- Contracts and lemmas, merged: Xu. Their conditions stand in each. -/
import Derived.Test.YtkijnpjefccepaaGA
import Derived.Test.YtkijnpjefccepaaGB
import Derived.Test.YtkijnpjefccepaaGC
import Derived.Test.YtkijnpjefccepaaGG
import Derived.Test.YtkijnpjefccepaaGH
import Derived.Test.YtkijnpjefccepaaGX
import Derived.Test.YtkijnpjefccepaaGY
import Derived.Test.YtkijnpjefccepaaGXA
import Derived.Test.YtkijnpjefccepaaGXB
import Derived.Test.YtkijnpjefccepaaGXI
import Derived.Test.YtkijnpjefccepaaGXJ
import Derived.Test.YtkijnpjefccepaaGXC
import Derived.Test.YtkijnpjefccepaaGXK
import Derived.Test.YtkijnpjefccepaaGXD
import Derived.Test.YtkijnpjefccepaaGXG
import Derived.Test.YtkijnpjefccepaaGXF
section
namespace Go.Proofs.Ytkijnpjefccepaa
open Go.ChangeShapes Go.WideShapes Go.ChangeAt Go.RowKit Go.Sha
theorem xact_any (w : World) (base hb : Nat) (kind : Int) (p : XP) (q : NC) (all saved : List XS) (S : List Nat) (ad : Option Addr) (nd cd : Nat) (data : Bs) (k att pick : Int) (hI : XInv w base hb kind p q all saved S) (hS : Sl w ad nd cd data) (hnd : nd ≤ 140737488351232) (hall : all.length ≤ 3000000000000) (hsvl : saved.length ≤ 3000000000000) (hh : p.Hd) (hkp : p = xpOf (k5 kind) q.name q.cust) (hqn : q.nn ≤ 140737488351232) (hqc : q.nc ≤ 140737488351232) (hnm : k % 10 = ((8 : Nat) : Int) → nd + (207 + p.ini.length) ≤ 140737488355328) :
    Calls Try.prog 30 #[.pointer (some ⟨hb, 0, none⟩), .agg #[.int .i64 k, .int .i64 att, .int .i64 pick, .slice ad nd cd]] w (XActR base hb kind p q (stepX p all saved ⟨k, att, pick, data⟩) S w) := by
  obtain ⟨bs, ss, a1, c1, a2, c2, h⟩ := hI
  have hm := ix_int k 10 (by decide)
  have hl := ix_lt k 10 (by decide)
  generalize ix k 10 = m at hm hl
  obtain rfl | rfl | rfl | rfl | rfl | rfl | rfl | rfl | rfl | rfl : m = 0 ∨ m = 1 ∨ m = 2 ∨ m = 3 ∨ m = 4 ∨ m = 5 ∨ m = 6 ∨ m = 7 ∨ m = 8 ∨ m = 9 := by omega
  · exact xact_write w base hb kind p q all saved bs ss a1 a2 c1 c2 S ad nd cd data k att pick h hS hnd hall hm
  · exact xact_read w base hb kind p q all saved bs ss a1 a2 c1 c2 S ad nd cd data k att pick h hS hnd hall hm
  · exact xact_reset w base hb kind p q all saved bs ss a1 a2 c1 c2 S ad nd cd data k att pick h hS hnd hall hh hm
  · exact xact_none w base hb kind p q all saved bs ss a1 a2 c1 c2 S ad nd cd data k att pick h hS hnd hall hm
  · exact xact_block w base hb kind p q all saved bs ss a1 a2 c1 c2 S ad nd cd data k att pick h hS hnd hall hm
  · exact xact_clone w base hb kind p q all saved bs ss a1 a2 c1 c2 S ad nd cd data k att pick h hS hnd hall hkp hqn hqc hm
  · exact xact_fresh w base hb kind p q all saved bs ss a1 a2 c1 c2 S ad nd cd data k att pick h hS hnd hall hkp hqn hqc hm
  · exact xact_save w base hb kind p q all saved bs ss a1 a2 c1 c2 S ad nd cd data k att pick h hS hnd hall hh hsvl hm
  · exact xact_append w base hb kind p q all saved bs ss a1 a2 c1 c2 S ad nd cd data k att pick h hS hnd hall hh hsvl (hnm hm) hm
  · by_cases h0 : saved.length = 0
    · exact xact_load0 w base hb kind p q all saved bs ss a1 a2 c1 c2 S ad nd cd data k att pick h hS hnd hall h0 hm
    · exact xact_load1 w base hb kind p q all saved bs ss a1 a2 c1 c2 S ad nd cd data k att pick h hS hnd hall hh (by omega) hsvl hm

theorem infoRX : (Try.prog.info? 32).map (fun i => (i.zero, i.size, i.bytes)) = some (some (.agg #[.int .i64 0, .slice none 0 0, .bool false, .bool false]), 4, 40) := by kernel_rfl
theorem XInv_start (w w1 : World) (kind : Int) (p : XP) (q : NC) (g : Nat) (hp : p.Ok) (hq : q.At w w.heap.size) (hg : w.heap.size ≤ g) (hg2 : g < w1.heap.size) (h1 : XsAt w1 g 72 p [g] ⟨p.hd, none⟩) (f1 : Fr [] w w1) :
    XInv ((w1.alloc (.cells #[.pointer (some ⟨g, 0, none⟩)] 49)).alloc (.cells #[.int .i64 kind, .slice q.an q.nn q.cn, .slice q.ac q.nc q.cc, .slice (some ⟨w1.heap.size, 0, none⟩) 1 1, .slice none 0 0] 54)) w.heap.size (w1.heap.size + 1) kind p q [⟨p.hd, none⟩] [] [w1.heap.size + 1, g, w1.heap.size] := by
  have hw1 := f1.size
  have z1 : (w1.alloc (.cells #[.pointer (some ⟨g, 0, none⟩)] 49)).heap.size = w1.heap.size + 1 := by simp
  have fA : Fr [] w1 ((w1.alloc (.cells #[.pointer (some ⟨g, 0, none⟩)] 49)).alloc (.cells #[.int .i64 kind, .slice q.an q.nn q.cn, .slice q.ac q.nc q.cc, .slice (some ⟨w1.heap.size, 0, none⟩) 1 1, .slice none 0 0] 54)) := ((Fr.refl _ _).alloc _).alloc _
  refine ⟨[g], [], some ⟨w1.heap.size, 0, none⟩, 1, none, 0, ⟨?_, rfl, ?_, ?_, by simp, rfl, World.ownsRow_nil _ _ _ _, (fun i hi => by simp at hi), by simp, by simp, by simp, (fun x hx => by cases hx), ?_, ?_, (fun x hx => by cases hx), (fun x y hx hy => by cases hy), ?_, by simp, hp, hq.keep (f1.trans fA) (by simp)⟩⟩
  · have e := Go.heap_alloc_new (w1.alloc (.cells #[.pointer (some ⟨g, 0, none⟩)] 49)) (.cells #[.int .i64 kind, .slice q.an q.nn q.cn, .slice q.ac q.nc q.cc, .slice (some ⟨w1.heap.size, 0, none⟩) 1 1, .slice none 0 0] 54)
    rw [z1] at e
    exact e
  · refine ⟨rfl, .inr ⟨w1.heap.size, 1, #[.pointer (some ⟨g, 0, none⟩)], rfl, hw1, ((Fr.refl [] _).alloc _).obj (Go.heap_alloc_new w1 _) (by simp), by simp, by simp [maxLen], by simp, rfl⟩⟩
  · intro i hi
    obtain rfl : i = 0 := by simp at hi; exact hi
    exact (h1.more (fun k hk => by simp at hk ⊢; omega)).keep fA (by simp) (by simp)
  · simp
    omega
  · intro x hx
    simp only [Option.some.injEq] at hx
    subst hx
    simp
    omega
  · intro k hk
    simp only [List.mem_cons, List.not_mem_nil, or_false] at hk
    simp
    omega
theorem Sl_byte0 {w : World} {b n c : Nat} {l : Bs} (h : Sl w (some ⟨b, 0, none⟩) n c l) (hn : n ≠ 0) : ∃ v, w.cell? ⟨b, 0, none⟩ = some (.int .u8 v) := by
  rcases h.cel with h0 | ⟨b', o', hb', hc⟩
  · exact absurd h0 hn
  · simp only [Option.some.injEq, Addr.mk.injEq] at hb'
    obtain ⟨rfl, rfl, _⟩ := hb'
    exact ⟨_, hc 0 (by omega)⟩
theorem XI_keepRow {w w' : World} {base hb : Nat} {kind : Int} {p : XP} {q : NC} {all saved : List XS} {bs : List Nat} {ss : List (Nat × Nat)} {a1 a2 : Option Addr} {c1 c2 : Nat} {S T : List Nat} (h : XI 54 49 22 72 w base hb kind p q all saved bs ss a1 c1 a2 c2 S) (hf : Fr T w w') (hT : ∀ x ∈ T, x ∉ S ∧ ∀ v, w.cell? ⟨x, 0, none⟩ ≠ some (.int .u8 v)) (hb0 : ∀ x ∈ T, base ≤ x) :
    XI 54 49 22 72 w' base hb kind p q all saved bs ss a1 c1 a2 c2 S :=
  ⟨hf.obj h.blk (fun hx => (hT _ hx).1 h.hbS), h.bl, ownsRow_keep h.rowA hf (fun k hk hx => by obtain ⟨x, hx', rfl⟩ := ownBlock_some hk; exact (hT _ hx).1 (h.a1S x hx')), fun i hi => (h.hs i hi).keep0c hf (fun hx => (hT _ hx).1 (h.bsS _ (getD_mem (by rw [h.bl]; exact hi)))) (fun k hk => (hT k hk).2), h.nodup, h.sl,
   ownsRow_keep h.rowS hf (fun k hk hx => by obtain ⟨x, hx', rfl⟩ := ownBlock_some hk; exact (hT _ hx).1 (h.a2S x hx')), fun i hi => ⟨(h.sv i hi).1.keep hf (fun x hx hn hm => by simp only [Option.some.injEq] at hx; subst hx; obtain ⟨v, hv⟩ := Sl_byte0 (h.sv i hi).1 hn; exact (hT _ hm).2 v hv), (h.sv i hi).2⟩, h.hbS, h.bsS, h.a1S, h.a2S, h.hbbs, h.a1bs, h.a2bs, h.a12, fun k hk => ⟨(h.Slt k hk).1, Nat.lt_of_lt_of_le (h.Slt k hk).2 hf.size⟩, h.pos, h.rt, h.nc.keep hf hb0⟩
/-- the first cell of the row of results is no byte -/
theorem row_nobyte {w : World} {base : Nat} {S : List Nat} {a : Option Addr} {n c : Nat} {rs : List Res} {vs : List (Option Addr × Nat)} (hR : RsI 32 5 w base S a n c rs vs) (h0 : n = 0 → a = none) : ∀ x ∈ blkOf a, ∀ v, w.cell? ⟨x, 0, none⟩ ≠ some (.int .u8 v) := fun x hx v e => by
  obtain ⟨y, hy, rfl⟩ := mem_blkOf.1 hx
  have hn : 0 < n := by
    rcases Nat.eq_zero_or_pos n with e0 | e0
    · rw [h0 e0] at hy; cases hy
    · exact e0
  obtain ⟨g, hg, _, _, hc⟩ := hR.cells hn
  rw [hg] at hy
  simp only [Option.some.injEq] at hy
  subst hy
  have h4 := hc 0 hn 0 (by decide)
  simp only [Nat.mul_zero, Nat.zero_add] at h4
  simp only at e
  rw [e] at h4
  simp [resCells] at h4
/-- the loop's relation -/
def XnRel (w : World) (kind : Int) (p : XP) (q : NC) (hb n : Nat) (xs : List Actn) (out iv : Value) (wr : World) : Prop :=
  ∃ i a c vs S, i ≤ n ∧ iv = .int .i64 ((i : Nat) : Int) ∧ out = .slice a i c ∧ XInv wr w.heap.size hb kind p q (runXS p (xs.take i)).all (runXS p (xs.take i)).saved S ∧ RsI 32 5 wr w.heap.size S a i c (runXS p (xs.take i)).rs vs ∧ Fr [] w wr ∧ (i = 0 → a = none) ∧ (runXS p (xs.take i)).stop = false
/-- what a script returns -/
def RunXR (rs : List Res) (w : World) (e : Ending) (w' : World) : Prop := ∃ a c vs, e = .returned (.slice a rs.length c) ∧ RsI 32 5 w' w.heap.size [] a rs.length c rs vs ∧ Fr [] w w'
set_option maxRecDepth 100000 in
set_option maxHeartbeats 1600000 in
theorem runXofs_anyS (w : World) (kind : Int) (q : NC) (a : Option Addr) (n c : Nat) (xs : List Actn) (h : ActsAt w a n c xs) (hq : q.At w w.heap.size) (hqn : q.nn ≤ 140737488351232) (hqc : q.nc ≤ 140737488351232) (hn : n ≤ 2999999999999) (hD : ∀ x ∈ xs, x.k % 10 = ((8 : Nat) : Int) → x.data.length + (207 + (xpOf (k5 kind) q.name q.cust).ini.length) ≤ 140737488355328) :
    Calls Try.prog 15 #[.int .i64 kind, .slice q.an q.nn q.cn, .slice q.ac q.nc q.cc, .slice a n c] w (RunXR (runX (xpOf (k5 kind) q.name q.cust) xs) w) := by
  obtain ⟨i0, hi0, hz0, hz1, hz2⟩ := info_parts infoRX
  have NX := newXof_any kind q.an q.ac q.nn q.cn q.nc q.cc q.name q.cust w hq.nm hq.cu hqn hqc
  have hok := xpOf_ok (k5 kind) q.name q.cust
  have hhd := xpOf_hd (k5 kind) q.name q.cust (by rw [hq.nm.len]; exact hqn) (by rw [hq.cu.len]; exact hqc)
  obtain ⟨p, hp⟩ : ∃ p, p = xpOf (k5 kind) q.name q.cust := ⟨_, rfl⟩
  rw [← hp] at NX hok hhd hD ⊢
  have HP := Lib.hid hp
  have HNX := Lib.hid NX
  have HOK := Lib.hid (And.intro hok hhd)
  have HQ := Lib.hid hq
  have HDD := Lib.hid hD
  have HA := Lib.hid h
  have hcap := h.cap
  have hmx := h.max
  unfold maxLen at hmx
  clear hp NX hok hhd hq hD h
  go_enter Try.func15, Try.ntmps15
  go_wp2_with fail
  refine HNX.out.mono ?_
  rintro e w1 ⟨g, rfl, hg1, hg2, h1, f1⟩
  have I0 := Lib.hid (XInv_start w w1 kind p q g HOK.out.1 HQ.out hg1 hg2 (h1 [] (by simp)) f1)
  have f2 : Fr [] w ((w1.alloc (.cells #[.pointer (some ⟨g, 0, none⟩)] 49)).alloc (.cells #[.int .i64 kind, .slice q.an q.nn q.cn, .slice q.ac q.nc q.cc, .slice (some ⟨w1.heap.size, 0, none⟩) 1 1, .slice none 0 0] 54)) := (f1.alloc _).alloc _
  clear h1 HNX
  go_wp2_with fail
  obtain ⟨hb, hhb⟩ : ∃ hb, hb = w1.heap.size + 1 := ⟨_, rfl⟩
  rw [← hhb] at I0
  have e1 : (w1.alloc (.cells #[.pointer (some ⟨g, 0, none⟩)] 49)).heap.size = hb := by rw [hhb]; simp
  try rw [e1]
  try rw [← hhb]
  have HHB := Lib.hid hhb
  clear hhb e1
  have J0 : Hid (∃ S, XInv ((w1.alloc (.cells #[.pointer (some ⟨g, 0, none⟩)] 49)).alloc (.cells #[.int .i64 kind, .slice q.an q.nn q.cn, .slice q.ac q.nc q.cc, .slice (some ⟨w1.heap.size, 0, none⟩) 1 1, .slice none 0 0] 54)) w.heap.size hb kind p q [⟨p.hd, none⟩] [] S) := ⟨_, I0.out⟩
  clear I0
  generalize ((w1.alloc (.cells #[.pointer (some ⟨g, 0, none⟩)] 49)).alloc (.cells #[.int .i64 kind, .slice q.an q.nn q.cn, .slice q.ac q.nc q.cc, .slice (some ⟨w1.heap.size, 0, none⟩) 1 1, .slice none 0 0] 54)) = w2 at J0 f2 ⊢
  go_loopw [10, 26] (fun out iv wr => XnRel w kind p q hb n xs out iv wr) (fun _ iv _ => n - (intOf iv).toNat)
  case atStart =>
    obtain ⟨S, hI⟩ := J0.out
    exact ⟨0, none, 0, [], S, by omega, rfl, rfl, hI, RsI.nil _ _ _ _ _, f2, fun _ => rfl, rfl⟩
  case round =>
    clear J0 f2
    obtain ⟨i, ao, co, vs, S, hi, rfl, rfl, hI, hR, hf, hi0a, hstop⟩ := hrel
    have HIZ := Lib.hid hi0a
    have HSTP := Lib.hid hstop
    clear hi0a hstop
    have HI5 := Lib.hid hI
    have HR5 := Lib.hid hR
    clear hI hR
    by_cases hlt : i < n
    · obtain ⟨b, ob, rfl, hcel⟩ : ∃ b ob, a = some ⟨b, ob, none⟩ ∧ ∀ i, i < n → ∃ ad nd cd, wr.cell? ⟨b, ob + 4 * i, none⟩ = some (.int .i64 (xs.getD i ⟨0, 0, 0, []⟩).k) ∧ wr.cell? ⟨b, ob + 4 * i + 1, none⟩ = some (.int .i64 (xs.getD i ⟨0, 0, 0, []⟩).at_) ∧ wr.cell? ⟨b, ob + 4 * i + 2, none⟩ = some (.int .i64 (xs.getD i ⟨0, 0, 0, []⟩).pick) ∧ wr.cell? ⟨b, ob + 4 * i + 3, none⟩ = some (.slice ad nd cd) ∧ Sl wr ad nd cd (xs.getD i ⟨0, 0, 0, []⟩).data ∧ nd ≤ 140737488351232 := by
        rcases (HA.out.keep hf (by simp)).cel with h0 | h0
        · omega
        · exact h0
      obtain ⟨ad, nd, cd, p0, p1, p2, p3, hS, hnd⟩ := hcel i hlt
      clear hcel
      rw [show ob + 4 * i = ob + i * 4 by omega] at p0 p1 p2 p3
      have hmem : xs.getD i ⟨0, 0, 0, []⟩ ∈ xs := by
        rw [List.getD_eq_getElem?_getD, List.getElem?_eq_getElem (by rw [HA.out.len]; exact hlt)]
        exact List.getElem_mem _
      have hnm := HDD.out _ hmem
      rw [hS.len] at hnm
      obtain ⟨x, hx⟩ : ∃ x, x = xs.getD i ⟨0, 0, 0, []⟩ := ⟨_, rfl⟩
      rw [← hx] at p0 p1 p2 hS hnm
      obtain ⟨k, att, pick, data⟩ := x
      simp only at p0 p1 p2 hS hnm
      have HX := Lib.hid hx
      have HS := Lib.hid hS
      have HNM := Lib.hid hnm
      clear hx hS hmem hnm
      obtain ⟨all, hall⟩ : ∃ all, all = (runXS p (xs.take i)).all := ⟨_, rfl⟩
      obtain ⟨saved, hsaved⟩ : ∃ saved, saved = (runXS p (xs.take i)).saved := ⟨_, rfl⟩
      obtain ⟨rs, hrs⟩ : ∃ rs, rs = (runXS p (xs.take i)).rs := ⟨_, rfl⟩
      have hlen := runXS_len p (xs.take i)
      rw [← hall, ← hsaved, ← hrs, List.length_take, HA.out.len] at hlen
      rw [← hall, ← hsaved] at HI5
      rw [← hrs] at HR5
      have hal : all.length ≤ 3000000000000 := by omega
      have hsl : saved.length ≤ 3000000000000 := by omega
      have HST := Lib.hid (And.intro hall (And.intro hsaved hrs))
      clear hall hsaved hrs hlen
      obtain ⟨Y, hY⟩ : ∃ Y, Y = stepX p all saved ⟨k, att, pick, data⟩ := ⟨_, rfl⟩
      have f2 : Fr [] wr (wr.alloc (.cells #[.int .i64 k, .int .i64 att, .int .i64 pick, .slice ad nd cd] 27)) := (Fr.refl _ _).alloc _
      obtain ⟨bs, ss, a1, c1, a2, c2, hI5⟩ := HI5.out
      have I2 : XInv (wr.alloc (.cells #[.int .i64 k, .int .i64 att, .int .i64 pick, .slice ad nd cd] 27)) w.heap.size hb kind p q all saved S := ⟨bs, ss, a1, c1, a2, c2, hI5.keep0 f2⟩
      have AC := xact_any _ w.heap.size hb kind p q all saved S ad nd cd data k att pick I2 (HS.out.keep0 f2) hnd hal hsl HOK.out.2 HP.out hqn hqc HNM.out
      rw [← hY] at AC
      have HAC := Lib.hid AC
      have HY := Lib.hid hY
      clear AC hY I2 hI5 HNM
      obtain ⟨⟨Rn, Rd, Ro, Rp⟩, all', saved'⟩ := Y
      have R2 := Lib.hid (HR5.out.keep (S' := S) (f2.mono (by simp)) (fun k hk => .inl hk))
      have F2 := hf.trans f2
      go_wp2_with fail
      generalize wr.alloc (.cells #[.int .i64 k, .int .i64 att, .int .i64 pick, .slice ad nd cd] 27) = w2 at HAC R2 F2 ⊢
      refine HAC.out.mono ?_
      rintro e w3 ⟨a3, c3, S', rfl, O3, I3, f3, hsub, hn3⟩
      simp only at O3 I3 hn3 ⊢
      have hw2 : w.heap.size ≤ w2.heap.size := F2.size
      have F3 : Fr [] w w3 := F2.via f3 (fun q hq => by
        obtain ⟨_, _, _, _, _, _, hq'⟩ := HI5.out
        exact (hq'.Slt q hq).1)
      have R3 := R2.out.keep f3 hsub
      have HSlt : ∀ q ∈ S', q < w3.heap.size := fun q hq => by
        obtain ⟨_, _, _, _, _, _, hq'⟩ := I3
        exact (hq'.Slt q hq).2
      have hv3 : ∀ y, a3 = some y → y.block ∉ S' ∧ (∀ z, ao = some z → y.block ≠ z.block) ∧ ∀ j, j < i → ∀ z, (vs.getD j (none, 0)).1 = some z → y.block ≠ z.block := fun y hy => by
        have hy2 : w2.heap.size ≤ y.block := by subst hy; exact O3.block.2.2.1
        refine ⟨hn3 y hy, fun z hz => ?_, fun j hj z hz => ?_⟩
        · have := (ownsRow_lt R2.out.row (show (Value.slice ao i co).ownBlock = some z.block by rw [hz]; rfl)).2
          omega
        · have h5 := R2.out.own j hj
          rw [hz] at h5
          have := h5.block.2.2.2
          omega
      have hao : ∀ z, ao = some z → z.block < w3.heap.size := fun z hz => (ownsRow_lt R3.row (show (Value.slice ao i co).ownBlock = some z.block by rw [hz]; rfl)).2
      have f4 : Fr [] w3 ((w3.alloc (.cells #[.int .i64 Rn, .slice a3 Rd.length c3, .bool Ro, .bool Rp] 32)).alloc (.cells #[.int .i64 Rn, .slice a3 Rd.length c3, .bool Ro, .bool Rp] 32)) := ((Fr.refl _ _).alloc _).alloc _
      have z4 : (w3.alloc (.cells #[.int .i64 Rn, .slice a3 Rd.length c3, .bool Ro, .bool Rp] 32)).heap.size = w3.heap.size + 1 := by simp
      have q4 : ((w3.alloc (.cells #[.int .i64 Rn, .slice a3 Rd.length c3, .bool Ro, .bool Rp] 32)).alloc (.cells #[.int .i64 Rn, .slice a3 Rd.length c3, .bool Ro, .bool Rp] 32)).heap[w3.heap.size]? = some (.cells #[.int .i64 Rn, .slice a3 Rd.length c3, .bool Ro, .bool Rp] 32 (0, 0)) := ((Fr.refl [] _).alloc _).obj (Go.heap_alloc_new w3 _) (by simp)
      have R4 := R3.keep (S' := S') (f4.mono (by simp)) (fun q hq => .inl hq)
      obtain ⟨XS, hXS⟩ : ∃ XS, XS = (rs.zip vs).flatMap resCells := ⟨_, rfl⟩
      have O4 : Hid (((w3.alloc (.cells #[.int .i64 Rn, .slice a3 Rd.length c3, .bool Ro, .bool Rp] 32)).alloc (.cells #[.int .i64 Rn, .slice a3 Rd.length c3, .bool Ro, .bool Rp] 32)).ownsRow w.heap.size 32 4 (.slice ao i co) i XS) := by rw [hXS]; exact R4.row
      obtain ⟨YS, hYS⟩ : ∃ YS, YS = resCells (⟨Rn, Rd, Ro, Rp⟩, (a3, c3)) := ⟨_, rfl⟩
      have Y4 : Hid (Src Try.prog 4 23 (.slice (some ⟨w3.heap.size + 1, 0, none⟩) 1 1) 1 YS ((w3.alloc (.cells #[.int .i64 Rn, .slice a3 Rd.length c3, .bool Ro, .bool Rp] 32)).alloc (.cells #[.int .i64 Rn, .slice a3 Rd.length c3, .bool Ro, .bool Rp] 32))) := by
        have e := Src_res (w := w3.alloc (.cells #[.int .i64 Rn, .slice a3 Rd.length c3, .bool Ro, .bool Rp] 32)) Try.underlying23 ⟨Rn, Rd, Ro, Rp⟩ (a3, c3) 32
        rw [z4, ← hYS] at e
        exact e
      have X1 : Hid (i + 1 ≤ maxLen) := by show _ ≤ _; unfold maxLen; omega
      have X2 : Hid ((i + 1) * 40 ≤ 140737488355328) := by show _ ≤ _; omega
      have X3 : Hid (w.heap.size ≤ ((w3.alloc (.cells #[.int .i64 Rn, .slice a3 Rd.length c3, .bool Ro, .bool Rp] 32)).alloc (.cells #[.int .i64 Rn, .slice a3 Rd.length c3, .bool Ro, .bool Rp] 32)).heap.size) := by show _ ≤ _; have := F3.size; simp; omega
      have HXY := Lib.hid (And.intro hXS hYS)
      have HR3 := Lib.hid R3
      have HO3 : Hid (Ow w3 w.heap.size 5 a3 c3 Rd) := O3.mono hw2
      have HI3 := Lib.hid I3
      have HV3 := Lib.hid hv3
      have HLT := Lib.hid HSlt
      have HAO := Lib.hid hao
      have HQ4 := Lib.hid q4
      have HSUB := Lib.hid hsub
      clear hXS hYS R3 O3 I3 hv3 HSlt hsub hn3 R4 f3 p0 p1 p2 p3 hao q4 z4
      go_wp2_with (at_builtin; refine wpList_append_srcN _ rfl _ _ 23 23 rfl w.heap.size 32 i0 (.agg #[.int .i64 0, .slice none 0 0, .bool false, .bool false]) 4 40 Try.underlying23 hi0 hz0 hz1 hz2 rfl ao i co XS rfl O4.out _ 1 YS rfl Y4.out X1.out X2.out X3.out ?_)
      intro a5 c5 w5 ho5 hg5 ha5
      have R5 := HR3.out.push (x := ⟨Rn, Rd, Ro, Rp⟩) (v := (a3, c3)) f4 HLT.out HO3.out HV3.out (by rw [← HXY.out.1, ← HXY.out.2]; exact ho5) hg5 (by simpa using ha5)
      have fBC : Fr (blkOf ao) ((w3.alloc (.cells #[.int .i64 Rn, .slice a3 Rd.length c3, .bool Ro, .bool Rp] 32)).alloc (.cells #[.int .i64 Rn, .slice a3 Rd.length c3, .bool Ro, .bool Rp] 32)) w5 := by
        rw [← ownBlock_blkOf ao i co]
        exact (Fr.refl _ _).grown hg5 (fun k hk => by rw [hk]; exact .inr (by simp))
      have hbse : ∀ x ∈ blkOf ao, w.heap.size ≤ x := fun q hq => by
        obtain ⟨z, hz, rfl⟩ := mem_blkOf.1 hq
        exact (ownsRow_lt HR3.out.row (show (Value.slice ao i co).ownBlock = some z.block by rw [hz]; rfl)).1
      have I5 : XInv w5 w.heap.size hb kind p q all' saved' S' := by
        obtain ⟨bs, ss, a1, c1, a2, c2, h3⟩ := HI3.out
        have R4 := HR3.out.keep (S' := S') (f4.mono (by simp)) (fun q hq => .inl hq)
        refine ⟨bs, ss, a1, c1, a2, c2, XI_keepRow (h3.keep0 f4) fBC (fun q hq => ⟨fun hm => ?_, row_nobyte R4 HIZ.out q hq⟩) hbse⟩
        obtain ⟨z, hz, rfl⟩ := mem_blkOf.1 hq
        exact HR3.out.rowS z hz hm
      have F5 : Fr [] w w5 := (F3.trans f4).via fBC hbse
      have q5 : w5.cell? ⟨w3.heap.size, 3, none⟩ = some (.bool Rp) := by
        rw [cell_of (fBC.obj HQ4.out (fun hm => by obtain ⟨z, hz, e⟩ := mem_blkOf.1 hm; have := HAO.out z hz; omega))]
        rfl
      have H5 := Lib.hid (And.intro R5 (And.intro I5 F5))
      clear R5 I5 F5 ho5 hg5 ha5 O4 Y4 X1 X2 X3 fBC f4 F3 F2 hf f2 hbse
      have e6 : runXS p (xs.take (i + 1)) = ⟨rs ++ [⟨Rn, Rd, Ro, Rp⟩], all', saved', Rp⟩ := by
        have e7 : xs.take (i + 1) = xs.take i ++ [⟨k, att, pick, data⟩] := by
          rw [List.take_succ_eq_append_getElem (by rw [HA.out.len]; exact hlt), HX.out, List.getD_eq_getElem?_getD, List.getElem?_eq_getElem (by rw [HA.out.len]; exact hlt)]
          rfl
        rw [e7, runXS_snoc]
        unfold goX
        rw [HSTP.out, ← HST.out.1, ← HST.out.2.1, ← HST.out.2.2, ← HY.out]
        rfl
      have HE6 := Lib.hid e6
      clear e6
      cases Rp with
      | true =>
        go_wp2_with fail
        go_ret
        have hst : (runXS p (xs.take (i + 1))).stop = true := by rw [HE6.out]
        have er : runX p xs = rs ++ [⟨Rn, Rd, Ro, true⟩] := by rw [runX, runXS_take_stop p xs (i + 1) hst, HE6.out]
        have hl : (rs ++ [(⟨Rn, Rd, Ro, true⟩ : Res)]).length = i + 1 := H5.out.1.len
        refine ⟨a5, c5, vs ++ [(a3, c3)], ?_, ?_, H5.out.2.2⟩
        · rw [er, hl]
          rfl
        · rw [er, hl]
          exact H5.out.1.keep (S' := []) (Fr.refl _ _) (by simp)
      | false =>
        go_wp2_with fail
        refine ⟨⟨i + 1, a5, c5, vs ++ [(a3, c3)], S', by omega, by simp, rfl, ?_, ?_, H5.out.2.2, fun h => by omega, ?_⟩, by simp [intOf]; omega⟩
        · rw [HE6.out]; exact H5.out.2.1
        · rw [HE6.out]; exact H5.out.1
        · rw [HE6.out]
    · obtain rfl : i = n := by omega
      have HF := Lib.hid hf
      clear hf
      go_wp2_with fail
      go_ret
      rw [List.take_of_length_le (by rw [HA.out.len]; exact Nat.le_refl _)] at HR5
      have hl := HR5.out.len
      exact ⟨ao, co, vs, by rw [runX, hl]; rfl, by rw [runX, hl]; exact HR5.out.keep (S' := []) (Fr.refl _ _) (by simp), HF.out⟩
/-- of short names and customizations -/
theorem runXofs_any (w : World) (kind : Int) (q : NC) (a : Option Addr) (n c : Nat) (xs : List Actn) (h : ActsAt w a n c xs) (hq : q.At w w.heap.size) (hqn : q.nn ≤ 1099511627776) (hqc : q.nc ≤ 1099511627776) (hn : n ≤ 2999999999999) (hD : ∀ x ∈ xs, x.data.length + (207 + (xpOf (k5 kind) q.name q.cust).ini.length) ≤ 140737488355328) :
    Calls Try.prog 15 #[.int .i64 kind, .slice q.an q.nn q.cn, .slice q.ac q.nc q.cc, .slice a n c] w (RunXR (runX (xpOf (k5 kind) q.name q.cust) xs) w) :=
  runXofs_anyS w kind q a n c xs h hq (by omega) (by omega) hn (fun x hx _ => hD x hx)
end Go.Proofs.Ytkijnpjefccepaa
end
