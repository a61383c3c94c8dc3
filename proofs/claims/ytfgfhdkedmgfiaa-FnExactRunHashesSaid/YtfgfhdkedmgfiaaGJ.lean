/- Contracts and lemmas, merged: Run. Their conditions stand in each. -/
import Derived.Test.YtfgfhdkedmgfiaaGA
import Derived.Test.YtfgfhdkedmgfiaaGB
import Derived.Test.YtfgfhdkedmgfiaaGC
import Derived.Test.YtfgfhdkedmgfiaaGG
import Derived.Test.YtfgfhdkedmgfiaaGH
import Derived.Test.YtfgfhdkedmgfiaaGP
import Derived.Test.YtfgfhdkedmgfiaaGI
import Derived.Test.YtfgfhdkedmgfiaaGK
import Derived.Test.YtfgfhdkedmgfiaaGL
section
namespace Go.Proofs.Ytfgfhdkedmgfiaa
open Go.ChangeShapes Go.WideShapes Go.ChangeAt Go.RowKit Go.Sha
theorem act_any (w : World) (base hb : Nat) (kind : Int) (r o : Nat) (all saved : List Bs) (S : List Nat) (ad : Option Addr) (nd cd : Nat) (data : Bs) (k att pick : Int) (hI : HInv w base hb kind r o all saved S) (hS : Sl w ad nd cd data) (hnd : nd ≤ 140737488351232) (hall : all.length ≤ 3000000000000) (hsvl : saved.length ≤ 3000000000000) (hkr : r = rOf (k5 kind)) (hko : o = oOf (k5 kind)) :
    Calls Try.prog 39 #[.pointer (some ⟨hb, 0, none⟩), .agg #[.int .i64 k, .int .i64 att, .int .i64 pick, .slice ad nd cd]] w (ActR base hb kind r o (stepH r o all saved ⟨k, att, pick, data⟩) S w) := by
  obtain ⟨bs, ss, a1, c1, a2, c2, h⟩ := hI
  have hm := ix_int k 10 (by decide)
  have hl := ix_lt k 10 (by decide)
  generalize ix k 10 = m at hm hl
  obtain rfl | rfl | rfl | rfl | rfl | rfl | rfl | rfl | rfl | rfl : m = 0 ∨ m = 1 ∨ m = 2 ∨ m = 3 ∨ m = 4 ∨ m = 5 ∨ m = 6 ∨ m = 7 ∨ m = 8 ∨ m = 9 := by omega
  · exact act_write w base hb kind r o all saved bs ss a1 a2 c1 c2 S ad nd cd data k att pick h hS hnd hall hm
  · exact act_sum w base hb kind r o all saved bs ss a1 a2 c1 c2 S ad nd cd data k att pick h hS hnd hall hm
  · exact act_reset w base hb kind r o all saved bs ss a1 a2 c1 c2 S ad nd cd data k att pick h hS hnd hall hm
  · exact act_size w base hb kind r o all saved bs ss a1 a2 c1 c2 S ad nd cd data k att pick h hS hnd hall hm
  · exact act_block w base hb kind r o all saved bs ss a1 a2 c1 c2 S ad nd cd data k att pick h hS hnd hall hm
  · exact act_clone w base hb kind r o all saved bs ss a1 a2 c1 c2 S ad nd cd data k att pick h hS hnd hall hm
  · exact act_fresh w base hb kind r o all saved bs ss a1 a2 c1 c2 S ad nd cd data k att pick h hS hnd hall hkr hko hm
  · exact act_save w base hb kind r o all saved bs ss a1 a2 c1 c2 S ad nd cd data k att pick h hS hnd hall hsvl hm
  · exact act_append w base hb kind r o all saved bs ss a1 a2 c1 c2 S ad nd cd data k att pick h hS hnd hall hsvl hm
  · by_cases h0 : saved.length = 0
    · exact act_load0 w base hb kind r o all saved bs ss a1 a2 c1 c2 S ad nd cd data k att pick h hS hnd hall h0 hm
    · exact act_load1 w base hb kind r o all saved bs ss a1 a2 c1 c2 S ad nd cd data k att pick h hS hnd hall (by omega) hsvl hm

theorem sv_row_ne {w : World} {base hb : Nat} {kind : Int} {r o : Nat} {all saved : List Bs} {bs : List Nat} {ss : List (Nat × Nat)} {a1 a2 : Option Addr} {c1 c2 : Nat} {S S' : List Nat} {a : Option Addr} {n c : Nat} {rs : List Res} {vs : List (Option Addr × Nat)} (h : HI 60 56 22 86 w base hb kind r o all saved bs ss a1 c1 a2 c2 S) (hR : RsI 31 5 w base S' a n c rs vs) (h0 : n = 0 → a = none) (j : Nat) (hj : j < saved.length) : ∀ x ∈ blkOf a, (ss.getD j (0, 0)).1 ≠ x := fun x hx e => by
  obtain ⟨y, hy, rfl⟩ := mem_blkOf.1 hx
  have hn : 0 < n := by
    rcases Nat.eq_zero_or_pos n with e0 | e0
    · rw [h0 e0] at hy; cases hy
    · exact e0
  obtain ⟨g, hg, _, _, hc⟩ := hR.cells hn
  rw [hg] at hy
  simp only [Option.some.injEq] at hy
  subst hy
  simp only at e
  have h1 := (h.sv j hj).1
  rcases h1.cel with h2 | ⟨b', o', hb', hc'⟩
  · cases h2
  · simp only [Option.some.injEq, Addr.mk.injEq] at hb'
    obtain ⟨rfl, rfl, _⟩ := hb'
    have h3 := hc' 1 (by decide)
    have h4 := hc 0 hn 1 (by decide)
    rw [e] at h3
    simp only [Nat.mul_zero, Nat.zero_add] at h3 h4
    rw [h3] at h4
    simp [resCells] at h4
theorem infoRT : (Try.prog.info? 31).map (fun i => (i.zero, i.size, i.bytes)) = some (some (.agg #[.int .i64 0, .slice none 0 0, .bool false, .bool false]), 4, 40) := by kernel_rfl
theorem HInv_start (w w1 : World) (kind : Int) (r o g : Nat) (hr : Rt r o) (hg : w.heap.size ≤ g) (hg2 : g < w1.heap.size) (h1 : HsAt w1 g 86 r o []) (f1 : Fr [] w w1) :
    HInv ((w1.alloc (.cells #[.pointer (some ⟨g, 0, none⟩)] 56)).alloc (.cells #[.int .i64 kind, .slice (some ⟨w1.heap.size, 0, none⟩) 1 1, .slice none 0 0] 60)) w.heap.size (w1.heap.size + 1) kind r o [[]] [] [w1.heap.size + 1, g, w1.heap.size] := by
  have hw1 := f1.size
  have z1 : (w1.alloc (.cells #[.pointer (some ⟨g, 0, none⟩)] 56)).heap.size = w1.heap.size + 1 := by simp
  have fA : Fr [] w1 ((w1.alloc (.cells #[.pointer (some ⟨g, 0, none⟩)] 56)).alloc (.cells #[.int .i64 kind, .slice (some ⟨w1.heap.size, 0, none⟩) 1 1, .slice none 0 0] 60)) := ((Fr.refl _ _).alloc _).alloc _
  refine ⟨[g], [], some ⟨w1.heap.size, 0, none⟩, 1, none, 0, ⟨?_, rfl, ?_, ?_, by simp, rfl, World.ownsRow_nil _ _ _ _, (fun i hi => by simp at hi), by simp, by simp, by simp, (fun x hx => by cases hx), ?_, ?_, (fun x hx => by cases hx), (fun x y hx hy => by cases hy), ?_, by simp, hr⟩⟩
  · have e := Go.heap_alloc_new (w1.alloc (.cells #[.pointer (some ⟨g, 0, none⟩)] 56)) (.cells #[.int .i64 kind, .slice (some ⟨w1.heap.size, 0, none⟩) 1 1, .slice none 0 0] 60)
    rw [z1] at e
    exact e
  · refine ⟨rfl, .inr ⟨w1.heap.size, 1, #[.pointer (some ⟨g, 0, none⟩)], rfl, hw1, ((Fr.refl [] _).alloc _).obj (Go.heap_alloc_new w1 _) (by simp), by simp, by simp [maxLen], by simp, rfl⟩⟩
  · intro i hi
    obtain rfl : i = 0 := by simp at hi; exact hi
    exact h1.keep fA (by simp)
  · simp
    omega
  · intro x hx
    simp only [Option.some.injEq] at hx
    subst hx
    simp
    omega
  · intro k hk
    simp only [List.mem_cons, List.not_mem_nil, or_false] at hk
    simp
    omega
/-- the loop's relation -/
def RnRel (w : World) (kind : Int) (r o hb n : Nat) (xs : List Actn) (out iv : Value) (wr : World) : Prop :=
  ∃ i a c vs S, i ≤ n ∧ iv = .int .i64 ((i : Nat) : Int) ∧ out = .slice a i c ∧ HInv wr w.heap.size hb kind r o (runS r o (xs.take i)).2.1 (runS r o (xs.take i)).2.2 S ∧ RsI 31 5 wr w.heap.size S a i c (runS r o (xs.take i)).1 vs ∧ Fr [] w wr ∧ (i = 0 → a = none)
/-- what a script returns -/
def RunR (n : Nat) (rs : List Res) (w : World) (e : Ending) (w' : World) : Prop := ∃ a c vs, e = .returned (.slice a n c) ∧ RsI 31 5 w' w.heap.size [] a n c rs vs ∧ Fr [] w w'
set_option maxRecDepth 100000 in
set_option maxHeartbeats 800000 in
theorem runHashes_any (w : World) (kind : Int) (a : Option Addr) (n c : Nat) (xs : List Actn) (h : ActsAt w a n c xs) (hn : n ≤ 2999999999999) :
    Calls Try.prog 11 #[.int .i64 kind, .slice a n c] w (RunR n (runH (rOf (k5 kind)) (oOf (k5 kind)) xs) w) := by
  obtain ⟨i0, hi0, hz0, hz1, hz2⟩ := info_parts infoRT
  obtain ⟨r, hr⟩ : ∃ r, r = rOf (k5 kind) := ⟨_, rfl⟩
  obtain ⟨o, ho⟩ : ∃ o, o = oOf (k5 kind) := ⟨_, rfl⟩
  have hrt : Rt r o := by rw [hr, ho]; exact rt_of _ (k5_lt kind)
  have HRO := Lib.hid (And.intro hr ho)
  have HA := Lib.hid h
  have hcap := h.cap
  have hmx := h.max
  unfold maxLen at hmx
  have HRT := Lib.hid hrt
  clear h hrt
  have NH := newHash_any kind w
  rw [← hr, ← ho] at NH
  have HNH := Lib.hid NH
  rw [← hr, ← ho]
  clear hr ho NH
  go_enter Try.func11, Try.ntmps11
  go_wp2_with fail
  refine HNH.out.mono ?_
  rintro e w1 ⟨g, rfl, hg1, hg2, h1, f1⟩
  have I0 := Lib.hid (HInv_start w w1 kind r o g HRT.out hg1 hg2 h1 f1)
  have f2 : Fr [] w ((w1.alloc (.cells #[.pointer (some ⟨g, 0, none⟩)] 56)).alloc (.cells #[.int .i64 kind, .slice (some ⟨w1.heap.size, 0, none⟩) 1 1, .slice none 0 0] 60)) := (f1.alloc _).alloc _
  clear h1 HNH
  go_wp2_with fail
  obtain ⟨hb, hhb⟩ : ∃ hb, hb = w1.heap.size + 1 := ⟨_, rfl⟩
  rw [← hhb] at I0
  have e1 : (w1.alloc (.cells #[.pointer (some ⟨g, 0, none⟩)] 56)).heap.size = hb := by rw [hhb]; simp
  try rw [e1]
  try rw [← hhb]
  have HHB := Lib.hid hhb
  clear hhb e1
  have J0 : Hid (∃ S, HInv ((w1.alloc (.cells #[.pointer (some ⟨g, 0, none⟩)] 56)).alloc (.cells #[.int .i64 kind, .slice (some ⟨w1.heap.size, 0, none⟩) 1 1, .slice none 0 0] 60)) w.heap.size hb kind r o [[]] [] S) := ⟨_, I0.out⟩
  clear I0
  generalize (w1.alloc (.cells #[.pointer (some ⟨g, 0, none⟩)] 56)).alloc (.cells #[.int .i64 kind, .slice (some ⟨w1.heap.size, 0, none⟩) 1 1, .slice none 0 0] 60) = w2 at J0 f2 ⊢
  go_loopw [6, 17] (fun out iv wr => RnRel w kind r o hb n xs out iv wr) (fun _ iv _ => n - (intOf iv).toNat)
  case atStart =>
    obtain ⟨S, hI⟩ := J0.out
    exact ⟨0, none, 0, [], S, by omega, rfl, rfl, hI, RsI.nil _ _ _ _ _, f2, fun _ => rfl⟩
  case round =>
    clear J0 f2
    obtain ⟨i, ao, co, vs, S, hi, rfl, rfl, hI, hR, hf, hi0a⟩ := hrel
    have HIZ := Lib.hid hi0a
    clear hi0a
    have HI5 := Lib.hid hI
    have HR5 := Lib.hid hR
    clear hI hR
    by_cases hlt : i < n
    · obtain ⟨b, ob, rfl, hcel⟩ : ∃ b ob, a = some ⟨b, ob, none⟩ ∧ ∀ i, i < n → ∃ ad nd cd, wr.cell? ⟨b, ob + 4 * i, none⟩ = some (.int .i64 (xs.getD i ⟨0, 0, 0, []⟩).k) ∧ wr.cell? ⟨b, ob + 4 * i + 1, none⟩ = some (.int .i64 (xs.getD i ⟨0, 0, 0, []⟩).at_) ∧ wr.cell? ⟨b, ob + 4 * i + 2, none⟩ = some (.int .i64 (xs.getD i ⟨0, 0, 0, []⟩).pick) ∧ wr.cell? ⟨b, ob + 4 * i + 3, none⟩ = some (.slice ad nd cd) ∧ Sl wr ad nd cd (xs.getD i ⟨0, 0, 0, []⟩).data ∧ nd ≤ 140737488351232 := by
        rcases (HA.out.keep hf (by simp)).cel with h0 | h0
        · omega
        · exact h0
      obtain ⟨ad, nd, cd, p0, p1, p2, p3, hS, hnd⟩ := hcel i hlt
      clear hcel
      rw [show ob + 4 * i = ob + i * 4 by omega] at p0 p1 p2 p3
      obtain ⟨x, hx⟩ : ∃ x, x = xs.getD i ⟨0, 0, 0, []⟩ := ⟨_, rfl⟩
      rw [← hx] at p0 p1 p2 hS
      obtain ⟨k, att, pick, data⟩ := x
      simp only at p0 p1 p2 hS
      have HX := Lib.hid hx
      have HS := Lib.hid hS
      clear hx hS
      obtain ⟨all, hall⟩ : ∃ all, all = (runS r o (xs.take i)).2.1 := ⟨_, rfl⟩
      obtain ⟨saved, hsaved⟩ : ∃ saved, saved = (runS r o (xs.take i)).2.2 := ⟨_, rfl⟩
      obtain ⟨rs, hrs⟩ : ∃ rs, rs = (runS r o (xs.take i)).1 := ⟨_, rfl⟩
      have hlen := runS_len r o (xs.take i)
      rw [← hall, ← hsaved, ← hrs, List.length_take, HA.out.len] at hlen
      rw [← hall, ← hsaved] at HI5
      rw [← hrs] at HR5
      have hal : all.length ≤ 3000000000000 := by omega
      have hsl : saved.length ≤ 3000000000000 := by omega
      have HST := Lib.hid (And.intro hall (And.intro hsaved hrs))
      clear hall hsaved hrs hlen
      obtain ⟨Y, hY⟩ : ∃ Y, Y = stepH r o all saved ⟨k, att, pick, data⟩ := ⟨_, rfl⟩
      have f2 : Fr [] wr (wr.alloc (.cells #[.int .i64 k, .int .i64 att, .int .i64 pick, .slice ad nd cd] 26)) := (Fr.refl _ _).alloc _
      obtain ⟨bs, ss, a1, c1, a2, c2, hI5⟩ := HI5.out
      have I2 : HInv (wr.alloc (.cells #[.int .i64 k, .int .i64 att, .int .i64 pick, .slice ad nd cd] 26)) w.heap.size hb kind r o all saved S := ⟨bs, ss, a1, c1, a2, c2, hI5.keep0 f2⟩
      have AC := act_any _ w.heap.size hb kind r o all saved S ad nd cd data k att pick I2 (HS.out.keep0 f2) hnd hal hsl HRO.out.1 HRO.out.2
      rw [← hY] at AC
      have HAC := Lib.hid AC
      have HY := Lib.hid hY
      clear AC hY I2 hI5
      obtain ⟨⟨Rn, Rd, Ro, Rp⟩, all', saved'⟩ := Y
      have R2 := Lib.hid (HR5.out.keep (S' := S) (f2.mono (by simp)) (fun k hk => .inl hk))
      have F2 := hf.trans f2
      go_wp2_with fail
      generalize wr.alloc (.cells #[.int .i64 k, .int .i64 att, .int .i64 pick, .slice ad nd cd] 26) = w2 at HAC R2 F2 ⊢
      refine HAC.out.mono ?_
      rintro e w3 ⟨a3, c3, S', rfl, O3, I3, f3, hsub, hn3⟩
      simp only at O3 I3 hn3 ⊢
      have hw2 : w.heap.size ≤ w2.heap.size := F2.size
      have F3 : Fr [] w w3 := F2.via f3 (fun q hq => by
        obtain ⟨_, _, _, _, _, _, hq'⟩ := HI5.out
        exact (hq'.Slt q hq).1)
      have R3 := R2.out.keep f3 hsub
      have HSlt : ∀ q ∈ S', q < w3.heap.size := fun q hq => by
        obtain ⟨_, _, _, _, _, _, hq'⟩ := I3
        exact (hq'.Slt q hq).2
      have hv3 : ∀ y, a3 = some y → y.block ∉ S' ∧ (∀ z, ao = some z → y.block ≠ z.block) ∧ ∀ j, j < i → ∀ z, (vs.getD j (none, 0)).1 = some z → y.block ≠ z.block := fun y hy => by
        have hy2 : w2.heap.size ≤ y.block := by subst hy; exact O3.block.2.2.1
        refine ⟨hn3 y hy, fun z hz => ?_, fun j hj z hz => ?_⟩
        · have := (ownsRow_lt R2.out.row (show (Value.slice ao i co).ownBlock = some z.block by rw [hz]; rfl)).2
          omega
        · have h5 := R2.out.own j hj
          rw [hz] at h5
          have := h5.block.2.2.2
          omega
      obtain ⟨x, hx⟩ : ∃ x : Res, x = ⟨Rn, Rd, Ro, Rp⟩ := ⟨_, rfl⟩
      obtain ⟨dl, hdl⟩ : ∃ dl, dl = Rd.length := ⟨_, rfl⟩
      have f4 : Fr [] w3 (w3.alloc (.cells #[.int .i64 Rn, .slice a3 Rd.length c3, .bool Ro, .bool Rp] 31)) := (Fr.refl _ _).alloc _
      have R4 := R3.keep (S' := S') (f4.mono (by simp)) (fun q hq => .inl hq)
      obtain ⟨XS, hXS⟩ : ∃ XS, XS = (rs.zip vs).flatMap resCells := ⟨_, rfl⟩
      have O4 : Hid ((w3.alloc (.cells #[.int .i64 Rn, .slice a3 Rd.length c3, .bool Ro, .bool Rp] 31)).ownsRow w.heap.size 31 4 (.slice ao i co) i XS) := by rw [hXS]; exact R4.row
      obtain ⟨YS, hYS⟩ : ∃ YS, YS = resCells (⟨Rn, Rd, Ro, Rp⟩, (a3, c3)) := ⟨_, rfl⟩
      have Y4 : Hid (Src Try.prog 4 23 (.slice (some ⟨w3.heap.size, 0, none⟩) 1 1) 1 YS (w3.alloc (.cells #[.int .i64 Rn, .slice a3 Rd.length c3, .bool Ro, .bool Rp] 31))) := by rw [hYS]; exact Src_res Try.underlying23 ⟨Rn, Rd, Ro, Rp⟩ (a3, c3) 31
      have X1 : Hid (i + 1 ≤ maxLen) := by show _ ≤ _; unfold maxLen; omega
      have X2 : Hid ((i + 1) * 40 ≤ 140737488355328) := by show _ ≤ _; omega
      have X3 : Hid (w.heap.size ≤ (w3.alloc (.cells #[.int .i64 Rn, .slice a3 Rd.length c3, .bool Ro, .bool Rp] 31)).heap.size) := by show _ ≤ _; have := F3.size; simp; omega
      have HXY := Lib.hid (And.intro hXS hYS)
      have HR3 := Lib.hid R3
      have HO3 : Hid (Ow w3 w.heap.size 5 a3 c3 Rd) := O3.mono hw2
      have HI3 := Lib.hid I3
      have HV3 := Lib.hid hv3
      have HLT := Lib.hid HSlt
      have HSUB := Lib.hid hsub
      clear hXS hYS R3 O3 I3 hv3 HSlt hsub hn3 R4 f3 hx x hdl dl p0 p1 p2 p3
      go_wp2_with (at_builtin; refine wpList_append_srcN _ rfl _ _ 23 23 rfl w.heap.size 31 i0 (.agg #[.int .i64 0, .slice none 0 0, .bool false, .bool false]) 4 40 Try.underlying23 hi0 hz0 hz1 hz2 rfl ao i co XS rfl O4.out _ 1 YS rfl Y4.out X1.out X2.out X3.out ?_)
      intro a5 c5 w5 ho5 hg5 ha5
      have R5 := HR3.out.push (x := ⟨Rn, Rd, Ro, Rp⟩) (v := (a3, c3)) f4 HLT.out HO3.out HV3.out (by rw [← HXY.out.1, ← HXY.out.2]; exact ho5) hg5 (by simpa using ha5)
      have fBC : Fr (blkOf ao) (w3.alloc (.cells #[.int .i64 Rn, .slice a3 Rd.length c3, .bool Ro, .bool Rp] 31)) w5 := by
        rw [← ownBlock_blkOf ao i co]
        exact (Fr.refl _ _).grown hg5 (fun k hk => by rw [hk]; exact .inr (by simp))
      have I5 : HInv w5 w.heap.size hb kind r o all' saved' S' := by
        obtain ⟨bs, ss, a1, c1, a2, c2, h3⟩ := HI3.out
        refine ⟨bs, ss, a1, c1, a2, c2, HI_keepNew (h3.keep0 f4) fBC (fun q hq => ⟨fun hm => ?_, fun j hj => ?_⟩)⟩
        · obtain ⟨z, hz, rfl⟩ := mem_blkOf.1 hq
          exact HR3.out.rowS z hz hm
        · exact sv_row_ne h3 HR3.out HIZ.out j hj q hq
      have F5 : Fr [] w w5 := (F3.trans f4).via fBC (fun q hq => by
        obtain ⟨z, hz, rfl⟩ := mem_blkOf.1 hq
        exact (ownsRow_lt HR3.out.row (show (Value.slice ao i co).ownBlock = some z.block by rw [hz]; rfl)).1)
      have H5 := Lib.hid (And.intro R5 (And.intro I5 F5))
      clear R5 I5 F5 ho5 hg5 ha5 O4 Y4 X1 X2 X3 fBC f4 F3 F2 hf f2
      go_wp2_with fail
      have e6 : runS r o (xs.take (i + 1)) = (rs ++ [⟨Rn, Rd, Ro, Rp⟩], all', saved') := by
        have e7 : xs.take (i + 1) = xs.take i ++ [⟨k, att, pick, data⟩] := by
          rw [List.take_succ_eq_append_getElem (by rw [HA.out.len]; exact hlt), HX.out, List.getD_eq_getElem?_getD, List.getElem?_eq_getElem (by rw [HA.out.len]; exact hlt)]
          rfl
        rw [e7, runS_snoc]
        unfold goH
        rw [← HST.out.1, ← HST.out.2.1, ← HST.out.2.2, ← HY.out]
      refine ⟨⟨i + 1, a5, c5, vs ++ [(a3, c3)], S', by omega, by simp, rfl, ?_, ?_, H5.out.2.2, fun h => by omega⟩, by simp [intOf]; omega⟩
      · rw [e6]; exact H5.out.2.1
      · rw [e6]; exact H5.out.1
    · obtain rfl : i = n := by omega
      have HF := Lib.hid hf
      clear hf
      go_wp2_with fail
      go_ret
      rw [List.take_of_length_le (by rw [HA.out.len]; exact Nat.le_refl _)] at HR5
      exact ⟨ao, co, vs, rfl, HR5.out.keep (S' := []) (Fr.refl _ _) (by simp), HF.out⟩
end Go.Proofs.Ytfgfhdkedmgfiaa
end
