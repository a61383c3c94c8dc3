/- Contracts and lemmas, merged: Xa, Xp. Their conditions stand in each. -/
import Derived.Test.YtkijnpjefccepaaGA
import Derived.Test.YtkijnpjefccepaaGB
import Derived.Test.YtkijnpjefccepaaGC
import Derived.Test.YtkijnpjefccepaaGG
import Derived.Test.YtkijnpjefccepaaGH
import Derived.Test.YtkijnpjefccepaaGX
import Derived.Test.YtkijnpjefccepaaGY
import Derived.Test.YtkijnpjefccepaaGXA
import Derived.Deep.RegionHeld3
import Derived.Deep.RegionLaw
section
namespace Go.Sha
open Go.RowKit
/-- one call: its result, the state of each function, what has been saved -/
def stepX (p : XP) (all saved : List XS) (x : Actn) : Res × List XS × List XS :=
  match ix x.k 10 with
  | 0 => match (all.getD (ix x.at_ all.length) ⟨[], none⟩).rd with
    | none => (⟨x.data.length, x.data, true, false⟩, all.set (ix x.at_ all.length) ⟨(all.getD (ix x.at_ all.length) ⟨[], none⟩).wr ++ x.data, none⟩, saved)
    | some _ => (⟨0, [], false, true⟩, all, saved)
  | 1 => (⟨x.data.length, xOut p (all.getD (ix x.at_ all.length) ⟨[], none⟩) x.data.length, true, false⟩, all.set (ix x.at_ all.length) ((all.getD (ix x.at_ all.length) ⟨[], none⟩).read x.data.length), saved)
  | 2 => (⟨0, [], false, false⟩, all.set (ix x.at_ all.length) ⟨p.hd, none⟩, saved)
  | 3 => (⟨0, [], false, false⟩, all, saved)
  | 4 => (⟨p.r, [], false, false⟩, all, saved)
  | 5 => (⟨0, [], false, false⟩, all ++ [⟨p.hd, none⟩], saved)
  | 6 => (⟨0, [], false, false⟩, all ++ [⟨p.hd, none⟩], saved)
  | 7 => (⟨0, [], true, false⟩, all, saved ++ [all.getD (ix x.at_ all.length) ⟨[], none⟩])
  | 8 => (⟨0, x.data, true, false⟩, all, saved ++ [all.getD (ix x.at_ all.length) ⟨[], none⟩])
  | _ => if saved.length = 0 then (⟨0, [], false, false⟩, all, saved) else (⟨0, [], true, false⟩, all.set (ix x.at_ all.length) (saved.getD (ix x.pick saved.length) ⟨[], none⟩), saved)
/-- a block that holds no byte -/
def NB (w : World) (k : Nat) : Prop := ∀ i v, w.cell? ⟨k, i, none⟩ ≠ some (.int .u8 v)
theorem NB_res {w : World} {k T : Nat} {n : Int} {a : Option Addr} {m c : Nat} {b1 b2 : Bool} {fz : Nat × Nat} (h : w.heap[k]? = some (.cells #[.int .i64 n, .slice a m c, .bool b1, .bool b2] T fz)) : NB w k := fun i v e => by
  rw [cell_of h] at e
  rcases i with _ | _ | _ | _ | i <;> simp at e
theorem Sl.ne_NB {w : World} {a : Option Addr} {n c : Nat} {l : Bs} {k : Nat} (h : Sl w a n c l) (hk : NB w k) {y : Addr} (hy : a = some y) (hn : n ≠ 0) : y.block ≠ k := fun e => by
  rcases h.cel with h0 | ⟨b', o', hb', hc⟩
  · exact hn h0
  · rw [hb'] at hy
    simp only [Option.some.injEq] at hy
    subst hy
    simp only at e
    subst e
    exact hk _ _ (hc 0 (by omega))
theorem XsAt.keepN {R S : List Nat} {w w' : World} {b T : Nat} {p : XP} {x : XS} (h : XsAt w b T p S x) (hf : Fr R w w') (hb : b ∉ R) (hR : ∀ k ∈ R, k ∈ S ∨ NB w k) : XsAt w' b T p S x := by
  obtain ⟨ai, ci, h1, h2, h3⟩ := h
  refine ⟨ai, ci, h1.keep hf (fun y hy hn hm => ?_), h2, ?_⟩
  · rcases hR _ hm with hs | hs
    · exact (h2 y hy hn).1 hs
    · exact h1.ne_NB hs hy hn rfl
  · rcases h3 with h3 | ⟨e1, e2, h3⟩
    · exact .inl (h3.keep hf hb)
    · exact .inr ⟨e1, e2, h3.keep hf hb⟩
end Go.Sha
namespace Go.Proofs.Ytkijnpjefccepaa
open Go.ChangeShapes Go.WideShapes Go.ChangeAt Go.RowKit Go.Sha
/-- the state of a script -/
def XInv (w : World) (base hb : Nat) (kind : Int) (p : XP) (q : NC) (all saved : List XS) (S : List Nat) : Prop := ∃ bs ss a1 c1 a2 c2, XI 54 49 22 72 w base hb kind p q all saved bs ss a1 c1 a2 c2 S
/-- what a call leaves -/
def XActR (base hb : Nat) (kind : Int) (p : XP) (q : NC) (x : Res × List XS × List XS) (S : List Nat) (w : World) (e : Ending) (w' : World) : Prop :=
  ∃ a c S', e = .returned (.agg #[.int .i64 x.1.n, .slice a x.1.data.length c, .bool x.1.ok, .bool x.1.pan]) ∧ Ow w' w.heap.size 5 a c x.1.data ∧ XInv w' base hb kind p q x.2.1 x.2.2 S' ∧ Fr S w w' ∧ (∀ k ∈ S', k ∈ S ∨ w.heap.size ≤ k) ∧ (∀ y, a = some y → y.block ∉ S')
section
variable {w w' : World} {base hb : Nat} {kind : Int} {p : XP} {q : NC} {all saved : List XS} {bs : List Nat} {ss : List (Nat × Nat)} {a1 a2 : Option Addr} {c1 c2 : Nat} {S : List Nat}
theorem XI_row (h : XI 54 49 22 72 w base hb kind p q all saved bs ss a1 c1 a2 c2 S) :
    ∃ ga, a1 = some ⟨ga, 0, none⟩ ∧ all.length ≤ c1 ∧ c1 ≤ 9223372036854775807 ∧ ∀ i, i < all.length → w.cell? ⟨ga, i, none⟩ = some (ptr (bs.getD i 0)) := by
  rcases h.rowA.2 with ⟨h2, h0⟩ | ⟨g, cap, cur, hv, hb', hg, hn, hm, hs, ht⟩
  · have := h.pos
    omega
  · simp only [Value.slice.injEq] at hv
    obtain ⟨rfl, _, rfl⟩ := hv
    refine ⟨g, rfl, hn, by unfold maxLen at hm; omega, fun i hi => ?_⟩
    have h4 : (cur.toList.take (all.length * 1))[i]? = (bs.map ptr)[i]? := by rw [ht]
    have h5 : (bs.map ptr)[i]? = some (ptr (bs.getD i 0)) := by
      rw [List.getElem?_map, List.getD_eq_getElem?_getD, List.getElem?_eq_getElem (l := bs) (by rw [h.bl]; exact hi)]
      rfl
    rw [List.getElem?_take_of_lt (by omega), h5, Array.getElem?_toList] at h4
    simp only [World.cell?, hg]
    exact h4
theorem XI_keepNew {T : List Nat} (h : XI 54 49 22 72 w base hb kind p q all saved bs ss a1 c1 a2 c2 S) (hf : Fr T w w') (hT : ∀ x ∈ T, x ∉ S ∧ NB w x) (hb0 : ∀ x ∈ T, base ≤ x) :
    XI 54 49 22 72 w' base hb kind p q all saved bs ss a1 c1 a2 c2 S :=
  ⟨hf.obj h.blk (fun hx => (hT _ hx).1 h.hbS), h.bl, ownsRow_keep h.rowA hf (fun k hk hx => by obtain ⟨x, hx', rfl⟩ := ownBlock_some hk; exact (hT _ hx).1 (h.a1S x hx')), fun i hi => (h.hs i hi).keepN hf (fun hx => (hT _ hx).1 (h.bsS _ (getD_mem (by rw [h.bl]; exact hi)))) (fun k hk => .inr (hT k hk).2), h.nodup, h.sl,
   ownsRow_keep h.rowS hf (fun k hk hx => by obtain ⟨x, hx', rfl⟩ := ownBlock_some hk; exact (hT _ hx).1 (h.a2S x hx')), fun i hi => ⟨(h.sv i hi).1.keep hf (fun x hx hn hm => (h.sv i hi).1.ne_NB (hT _ hm).2 hx hn rfl), (h.sv i hi).2⟩, h.hbS, h.bsS, h.a1S, h.a2S, h.hbbs, h.a1bs, h.a2bs, h.a12, fun k hk => ⟨(h.Slt k hk).1, Nat.lt_of_lt_of_le (h.Slt k hk).2 hf.size⟩, h.pos, h.rt, h.nc.keep hf hb0⟩
/-- the result's block -/
theorem newOkX {S' : List Nat} {wr : World} {T : Nat} {n : Int} {a : Option Addr} {m c : Nat} {b1 b2 : Bool} (h : XI 54 49 22 72 w base hb kind p q all saved bs ss a1 c1 a2 c2 S) (hS : ∀ x ∈ S', x ∈ S ∨ w.heap.size + 1 + 1 ≤ x) (hg : wr.heap[w.heap.size + 1]? = some (.cells #[.int .i64 n, .slice a m c, .bool b1, .bool b2] T (0, 0))) : ∀ x ∈ [w.heap.size + 1], x ∉ S' ∧ NB wr x := fun x hx => by
  simp only [List.mem_cons, List.not_mem_nil, or_false] at hx
  subst hx
  refine ⟨fun hm => ?_, NB_res hg⟩
  rcases hS _ hm with h1 | h1
  · have := h.lt_of h1
    omega
  · omega
theorem newB (h : XI 54 49 22 72 w base hb kind p q all saved bs ss a1 c1 a2 c2 S) : ∀ x ∈ [w.heap.size + 1], base ≤ x := fun x hx => by
  simp only [List.mem_cons, List.not_mem_nil, or_false] at hx
  have := (h.Slt hb h.hbS)
  omega
end
/-- what is known at the start of a call, carried through its first statement -/
structure B1 (w : World) (base hb : Nat) (kind : Int) (p : XP) (q : NC) (all saved : List XS) (bs : List Nat) (ss : List (Nat × Nat)) (a1 a2 : Option Addr) (c1 c2 : Nat) (S : List Nat) (ad : Option Addr) (nd cd : Nat) (data : Bs) (k att pick : Int) (wr : World) : Prop where
  hi : XI 54 49 22 72 wr base hb kind p q all saved bs ss a1 c1 a2 c2 S
  sl : Sl wr ad nd cd data
  b1 : wr.heap[w.heap.size]? = some (.cells #[.int .i64 k, .int .i64 att, .int .i64 pick, .slice ad nd cd] 27 (0, 0))
  b2 : wr.heap[w.heap.size + 1]? = some (.cells #[.int .i64 0, .slice none 0 0, .bool false, .bool false] 32 (0, 0))
  fr : Fr [] w wr
section
variable {w wr w' : World} {base hb : Nat} {kind : Int} {p : XP} {q : NC} {all saved : List XS} {bs : List Nat} {ss : List (Nat × Nat)} {a1 a2 : Option Addr} {c1 c2 : Nat} {S : List Nat} {ad : Option Addr} {nd cd : Nat} {data : Bs} {k att pick : Int}
theorem B1.keep (h : B1 w base hb kind p q all saved bs ss a1 a2 c1 c2 S ad nd cd data k att pick wr) (hf : Fr [] wr w') : B1 w base hb kind p q all saved bs ss a1 a2 c1 c2 S ad nd cd data k att pick w' :=
  ⟨h.hi.keep0 hf, h.sl.keep0 hf, hf.obj h.b1 (by simp), hf.obj h.b2 (by simp), h.fr.trans hf⟩
theorem B1.start (h : XI 54 49 22 72 w base hb kind p q all saved bs ss a1 c1 a2 c2 S) (hS : Sl w ad nd cd data) (k att pick : Int) :
    B1 w base hb kind p q all saved bs ss a1 a2 c1 c2 S ad nd cd data k att pick ((w.alloc (.cells #[.int .i64 k, .int .i64 att, .int .i64 pick, .slice ad nd cd] 27)).alloc (.cells #[.int .i64 0, .slice none 0 0, .bool false, .bool false] 32)) := by
  have f : Fr [] w ((w.alloc (.cells #[.int .i64 k, .int .i64 att, .int .i64 pick, .slice ad nd cd] 27)).alloc (.cells #[.int .i64 0, .slice none 0 0, .bool false, .bool false] 32)) := ((Fr.refl _ _).alloc _).alloc _
  refine ⟨h.keep0 f, hS.keep0 f, ((Fr.refl [] _).alloc _).obj (Go.heap_alloc_new w _) (by simp), ?_, f⟩
  have e := Go.heap_alloc_new (w.alloc (.cells #[.int .i64 k, .int .i64 att, .int .i64 pick, .slice ad nd cd] 27)) (.cells #[.int .i64 0, .slice none 0 0, .bool false, .bool false] 32)
  rw [show (w.alloc (.cells #[.int .i64 k, .int .i64 att, .int .i64 pick, .slice ad nd cd] 27)).heap.size = w.heap.size + 1 by simp] at e
  exact e
/-- the cells that the first statement reads -/
theorem B1.held (h : B1 w base hb kind p q all saved bs ss a1 a2 c1 c2 S ad nd cd data k att pick wr) {i ga n : Nat} {b : Nat} (hi : i < all.length) (ha : a1 = some ⟨ga, 0, none⟩) (hb' : bs.getD i 0 = b) (hn : all.length = n) :
    wr.cell? ⟨hb, 3, none⟩ = some (.slice (some ⟨ga, 0, none⟩) n c1) ∧ wr.cell? ⟨w.heap.size, 1, none⟩ = some (.int .i64 att) ∧ wr.cell? ⟨w.heap.size, 3, none⟩ = some (.slice ad nd cd) ∧ wr.cell? ⟨ga, i, none⟩ = some (.pointer (some ⟨b, 0, none⟩)) ∧ B1 w base hb kind p q all saved bs ss a1 a2 c1 c2 S ad nd cd data k att pick wr := by
  obtain ⟨ga', e1, _, _, hc⟩ := XI_row h.hi
  rw [ha] at e1
  simp only [Option.some.injEq, Addr.mk.injEq] at e1
  obtain ⟨rfl, _, _⟩ := e1
  refine ⟨?_, by rw [cell_of h.b1]; rfl, by rw [cell_of h.b1]; rfl, by rw [hc i hi, hb']; rfl, h⟩
  rw [cell_of h.hi.blk, ha, hn]
  rfl
end

set_option maxRecDepth 100000 in
set_option maxHeartbeats 600000 in
theorem xact_block (w : World) (base hb : Nat) (kind : Int) (p : XP) (q : NC) (all saved : List XS) (bs : List Nat) (ss : List (Nat × Nat)) (a1 a2 : Option Addr) (c1 c2 : Nat) (S : List Nat) (ad : Option Addr) (nd cd : Nat) (data : Bs) (k att pick : Int) (h : XI 54 49 22 72 w base hb kind p q all saved bs ss a1 c1 a2 c2 S) (hS : Sl w ad nd cd data) (hnd : nd ≤ 140737488351232) (hall : all.length ≤ 3000000000000) (hkm : k % 10 = ((4 : Nat) : Int)) :
    Calls Try.prog 30 #[.pointer (some ⟨hb, 0, none⟩), .agg #[.int .i64 k, .int .i64 att, .int .i64 pick, .slice ad nd cd]] w (XActR base hb kind p q (stepX p all saved ⟨k, att, pick, data⟩) S w) := by
  have hA0 := B1.start h hS k att pick
  obtain ⟨i, hi⟩ : ∃ i, i = ix att all.length := ⟨_, rfl⟩
  have hil : i < all.length := by rw [hi]; exact ix_lt _ _ h.pos
  have HIX : Hid (att % ((all.length : Nat) : Int) = (i : Int)) := by rw [hi]; exact ix_int _ _ h.pos
  have HII := Lib.hid hi
  have HKM : Hid (k % 10 = ((4 : Nat) : Int)) := hkm
  clear hi hkm
  obtain ⟨ga, hga, hac, hacm, _⟩ := XI_row h
  obtain ⟨b, hb0⟩ : ∃ b, b = bs.getD i 0 := ⟨_, rfl⟩
  obtain ⟨n, hnl⟩ : ∃ n, n = all.length := ⟨_, rfl⟩
  have hrt := Lib.hid h.rt
  have hapos := h.pos
  have HBB : Hid (bs.getD i 0 = b) := hb0.symm
  have HNL : Hid (all.length = n) := hnl.symm
  have HGA := Lib.hid hga
  rw [← hnl] at hil hac hapos hall HIX
  have hin : (i : Int) < (n : Int) := by omega
  have HIL : Hid (i < all.length) := by show _ < _; rw [HNL.out]; exact hil
  clear hb0 hnl
  have t0 : ((4 : Int) == 0) = false := by decide
  have t1 : ((4 : Int) == 1) = false := by decide
  have t2 : ((4 : Int) == 2) = false := by decide
  have t4 : ((4 : Int) == 4) = true := by decide
  subst hga
  have HH := Lib.hid h
  have HS := Lib.hid hS
  clear h hS
  go_enter Try.func30, Try.ntmps30
  go_wp2_with fail
  have R0 := hA0.keep (Fr.refl _ _).drew
  go_region_held3 (fun w' => w'.cell? ⟨hb, 3, none⟩ = some (.slice (some ⟨ga, 0, none⟩) n c1) ∧ w'.cell? ⟨w.heap.size, 1, none⟩ = some (.int .i64 att) ∧ w'.cell? ⟨w.heap.size, 3, none⟩ = some (.slice ad nd cd) ∧ w'.cell? ⟨ga, i, none⟩ = some (.pointer (some ⟨b, 0, none⟩)) ∧ B1 w base hb kind p q all saved bs ss (some ⟨ga, 0, none⟩) a2 c1 c2 S ad nd cd data k att pick w')
    (first | (exact R0.held HIL.out rfl HBB.out HNL.out) | (exact (R0.keep f5).held HIL.out rfl HBB.out HNL.out) | (go_keep))
    (first | (go_at_call 36; refine (place_nat att n i _ (by omega) (by omega) HIX.out).mono ?_; rintro e w4 ⟨rfl, rfl⟩) | (go_at_call 40; refine (copied_n ad nd cd data _ R0.sl (by omega)).mono ?_; rintro e w5 ⟨ao, co, rfl, O5, f5⟩))
  have R5 := R0.keep f5
  have q0 : w5.cell? ⟨w.heap.size, 0, none⟩ = some (.int .i64 k) := by rw [cell_of R5.b1]; rfl
  have OW5 : Hid (Ow w5 (w.heap.size + 1 + 1) 5 ao co data) := by
    have e5 := O5
    rw [show (((w.alloc (.cells #[.int .i64 k, .int .i64 att, .int .i64 pick, .slice ad nd cd] 27)).alloc (.cells #[.int .i64 0, .slice none 0 0, .bool false, .bool false] 32)).drew).heap.size = w.heap.size + 1 + 1 by simp [World.drew]] at e5
    exact e5
  have H5 := Lib.hid R5
  clear O5 R5 R0 hA0 f5
  go_wp2_with fail
  refine (place_nat k 10 4 _ (by decide) (by decide) HKM.out).mono ?_
  rintro e w5 ⟨rfl, rfl⟩
  clear q0
  obtain ⟨xi, hxi⟩ : ∃ xi, xi = all.getD i ⟨[], none⟩ := ⟨_, rfl⟩
  have HXI := Lib.hid hxi
  have hs5 : Hid (XsAt w5 b 72 p S xi) := by have := H5.out.hi.hs i HIL.out; rw [HBB.out, ← hxi] at this; exact this
  clear hxi
  have hbS : b ∈ S := by rw [← HBB.out]; exact HH.out.bsS _ (getD_mem (by rw [HH.out.bl]; exact HIL.out))
  have hbw : b < w.heap.size := HH.out.lt_of hbS
  have HBS := Lib.hid hbS
  clear hbS
  have hb5 : w.heap.size + 1 + 1 ≤ w5.heap.size := by have := (Array.getElem?_eq_some_iff.1 H5.out.b2).1; omega
  go_wp2_with fail
  refine (shkBlockSize_any w5 b p S xi hrt.out HBS.out hs5.out).mono ?_
  rintro e w6 ⟨rfl, D6, f6⟩
  have HD6 := Lib.hid D6
  clear D6
  have G6 : Hid (w6.heap[w.heap.size + 1]? = some (.cells #[.int .i64 0, .slice none 0 0, .bool false, .bool false] 32 (0, 0))) := f6.obj H5.out.b2 (by simp; omega)
  go_wp2_with (refine wpList_store_bits rfl _ _ _ rfl (w.heap.size + 1) rfl 32 #[.int .i64 (p.r : Int), .slice none 0 0, .bool false, .bool false] #[.int .i64 0, .slice none 0 0, .bool false, .bool false] rfl G6.out rfl (by intro v hv; simp at hv; rcases hv with rfl | rfl | rfl | rfl <;> rfl) sizeRT ?_; refine Hid.out ?_)
  show wpList _ _ _ _ _ _
  have G9 := Lib.hid (setRow_heap _ _ _ (#[.int .i64 (p.r : Int), .slice none 0 0, .bool false, .bool false] : Array Value) _ _ G6.out)
  have f9 : Fr [w.heap.size + 1] w6 (w6.setRow (w.heap.size + 1) #[.int .i64 (p.r : Int), .slice none 0 0, .bool false, .bool false]) := (Fr.refl _ _).setRow _ _ (.inr (by simp))
  generalize w6.setRow (w.heap.size + 1) #[.int .i64 (p.r : Int), .slice none 0 0, .bool false, .bool false] = w9 at G9 f9 ⊢
  go_wp2_with fail
  refine bodyPost_ret (v := .agg #[.int .i64 (p.r : Int), .slice none 0 0, .bool false, .bool false]) (results_cell_row rfl _ _ (w.heap.size + 1) _ _ _ _ rfl G9.out Try.underlying32 rfl sizeRT) rfl ?_
  have F9 : Fr S w w9 := Fr_trans_new ((H5.out.fr.mono (by simp)).trans (f6.mono (fun x _ hx => by simp at hx; rw [hx]; exact HBS.out)) : Fr S w w6) f9 (by simp)
  have K9 : XI 54 49 22 72 w9 base hb kind p q (all.set i (all.getD i ⟨[], none⟩)) saved bs ss (some ⟨ga, 0, none⟩) c1 a2 c2 S := XI_keepNew (H5.out.hi.upd i HIL.out (all.getD i ⟨[], none⟩) (by rw [HBB.out]; exact f6) (by rw [HBB.out]; rw [← HXI.out]; exact HD6.out)) f9 (newOkX HH.out (fun x hx => .inl hx) G6.out) (newB HH.out)
  have e9 : ix k 10 = 4 := by unfold ix; have := HKM.out; omega
  refine ⟨none, 0, S, ?_, ?_, ?_, F9, fun x hx => .inl hx, fun y hy => by cases hy⟩
  · simp only [stepX, e9]; rfl
  · simp only [stepX, e9]; exact Ow.nil _ _ _
  · simp only [stepX, e9]; exact ⟨_, _, _, _, _, _, by have := K9; rw [set_getD] at this; exact this⟩

set_option maxRecDepth 100000 in
set_option maxHeartbeats 600000 in
theorem xact_none (w : World) (base hb : Nat) (kind : Int) (p : XP) (q : NC) (all saved : List XS) (bs : List Nat) (ss : List (Nat × Nat)) (a1 a2 : Option Addr) (c1 c2 : Nat) (S : List Nat) (ad : Option Addr) (nd cd : Nat) (data : Bs) (k att pick : Int) (h : XI 54 49 22 72 w base hb kind p q all saved bs ss a1 c1 a2 c2 S) (hS : Sl w ad nd cd data) (hnd : nd ≤ 140737488351232) (hall : all.length ≤ 3000000000000) (hkm : k % 10 = ((3 : Nat) : Int)) :
    Calls Try.prog 30 #[.pointer (some ⟨hb, 0, none⟩), .agg #[.int .i64 k, .int .i64 att, .int .i64 pick, .slice ad nd cd]] w (XActR base hb kind p q (stepX p all saved ⟨k, att, pick, data⟩) S w) := by
  have hA0 := B1.start h hS k att pick
  obtain ⟨i, hi⟩ : ∃ i, i = ix att all.length := ⟨_, rfl⟩
  have hil : i < all.length := by rw [hi]; exact ix_lt _ _ h.pos
  have HIX : Hid (att % ((all.length : Nat) : Int) = (i : Int)) := by rw [hi]; exact ix_int _ _ h.pos
  have HII := Lib.hid hi
  have HKM : Hid (k % 10 = ((3 : Nat) : Int)) := hkm
  clear hi hkm
  obtain ⟨ga, hga, hac, hacm, _⟩ := XI_row h
  obtain ⟨b, hb0⟩ : ∃ b, b = bs.getD i 0 := ⟨_, rfl⟩
  obtain ⟨n, hnl⟩ : ∃ n, n = all.length := ⟨_, rfl⟩
  have hrt := Lib.hid h.rt
  have hapos := h.pos
  have HBB : Hid (bs.getD i 0 = b) := hb0.symm
  have HNL : Hid (all.length = n) := hnl.symm
  have HGA := Lib.hid hga
  rw [← hnl] at hil hac hapos hall HIX
  have hin : (i : Int) < (n : Int) := by omega
  have HIL : Hid (i < all.length) := by show _ < _; rw [HNL.out]; exact hil
  clear hb0 hnl
  have t0 : ((3 : Int) == 0) = false := by decide
  have t1 : ((3 : Int) == 1) = false := by decide
  have t2 : ((3 : Int) == 2) = false := by decide
  have t4 : ((3 : Int) == 4) = false := by decide
  have t5 : ((3 : Int) == 5) = false := by decide
  have t6 : ((3 : Int) == 6) = false := by decide
  have t7 : ((3 : Int) == 7) = false := by decide
  have t8 : ((3 : Int) == 8) = false := by decide
  have t9 : ((3 : Int) == 9) = false := by decide
  subst hga
  have HH := Lib.hid h
  have HS := Lib.hid hS
  clear h hS
  go_enter Try.func30, Try.ntmps30
  go_wp2_with fail
  have R0 := hA0.keep (Fr.refl _ _).drew
  go_region_held3 (fun w' => w'.cell? ⟨hb, 3, none⟩ = some (.slice (some ⟨ga, 0, none⟩) n c1) ∧ w'.cell? ⟨w.heap.size, 1, none⟩ = some (.int .i64 att) ∧ w'.cell? ⟨w.heap.size, 3, none⟩ = some (.slice ad nd cd) ∧ w'.cell? ⟨ga, i, none⟩ = some (.pointer (some ⟨b, 0, none⟩)) ∧ B1 w base hb kind p q all saved bs ss (some ⟨ga, 0, none⟩) a2 c1 c2 S ad nd cd data k att pick w')
    (first | (exact R0.held HIL.out rfl HBB.out HNL.out) | (exact (R0.keep f5).held HIL.out rfl HBB.out HNL.out) | (go_keep))
    (first | (go_at_call 36; refine (place_nat att n i _ (by omega) (by omega) HIX.out).mono ?_; rintro e w4 ⟨rfl, rfl⟩) | (go_at_call 40; refine (copied_n ad nd cd data _ R0.sl (by omega)).mono ?_; rintro e w5 ⟨ao, co, rfl, O5, f5⟩))
  have R5 := R0.keep f5
  have q0 : w5.cell? ⟨w.heap.size, 0, none⟩ = some (.int .i64 k) := by rw [cell_of R5.b1]; rfl
  have OW5 : Hid (Ow w5 (w.heap.size + 1 + 1) 5 ao co data) := by
    have e5 := O5
    rw [show (((w.alloc (.cells #[.int .i64 k, .int .i64 att, .int .i64 pick, .slice ad nd cd] 27)).alloc (.cells #[.int .i64 0, .slice none 0 0, .bool false, .bool false] 32)).drew).heap.size = w.heap.size + 1 + 1 by simp [World.drew]] at e5
    exact e5
  have H5 := Lib.hid R5
  clear O5 R5 R0 hA0 f5
  go_wp2_with fail
  refine (place_nat k 10 3 _ (by decide) (by decide) HKM.out).mono ?_
  rintro e w5 ⟨rfl, rfl⟩
  clear q0
  obtain ⟨xi, hxi⟩ : ∃ xi, xi = all.getD i ⟨[], none⟩ := ⟨_, rfl⟩
  have HXI := Lib.hid hxi
  have hs5 : Hid (XsAt w5 b 72 p S xi) := by have := H5.out.hi.hs i HIL.out; rw [HBB.out, ← hxi] at this; exact this
  clear hxi
  have hbS : b ∈ S := by rw [← HBB.out]; exact HH.out.bsS _ (getD_mem (by rw [HH.out.bl]; exact HIL.out))
  have hbw : b < w.heap.size := HH.out.lt_of hbS
  have HBS := Lib.hid hbS
  clear hbS
  have hb5 : w.heap.size + 1 + 1 ≤ w5.heap.size := by have := (Array.getElem?_eq_some_iff.1 H5.out.b2).1; omega
  have G6 : Hid (w5.heap[w.heap.size + 1]? = some (.cells #[.int .i64 0, .slice none 0 0, .bool false, .bool false] 32 (0, 0))) := H5.out.b2
  go_wp2_with (refine wpList_store_bits rfl _ _ _ rfl (w.heap.size + 1) rfl 32 #[.int .i64 0, .slice none 0 0, .bool false, .bool false] #[.int .i64 0, .slice none 0 0, .bool false, .bool false] rfl G6.out rfl (by intro v hv; simp at hv; rcases hv with rfl | rfl | rfl | rfl <;> rfl) sizeRT ?_; refine Hid.out ?_)
  show wpList _ _ _ _ _ _
  have G9 := Lib.hid (setRow_heap _ _ _ (#[.int .i64 0, .slice none 0 0, .bool false, .bool false] : Array Value) _ _ G6.out)
  have f9 : Fr [w.heap.size + 1] w5 (w5.setRow (w.heap.size + 1) #[.int .i64 0, .slice none 0 0, .bool false, .bool false]) := (Fr.refl _ _).setRow _ _ (.inr (by simp))
  generalize w5.setRow (w.heap.size + 1) #[.int .i64 0, .slice none 0 0, .bool false, .bool false] = w9 at G9 f9 ⊢
  go_wp2_with fail
  refine bodyPost_ret (v := .agg #[.int .i64 0, .slice none 0 0, .bool false, .bool false]) (results_cell_row rfl _ _ (w.heap.size + 1) _ _ _ _ rfl G9.out Try.underlying32 rfl sizeRT) rfl ?_
  have F9 : Fr S w w9 := Fr_trans_new (H5.out.fr.mono (by simp) : Fr S w w5) f9 (by simp)
  have K9 : XI 54 49 22 72 w9 base hb kind p q all saved bs ss (some ⟨ga, 0, none⟩) c1 a2 c2 S := XI_keepNew H5.out.hi f9 (newOkX HH.out (fun x hx => .inl hx) H5.out.b2) (newB HH.out)
  have e9 : ix k 10 = 3 := by unfold ix; have := HKM.out; omega
  refine ⟨none, 0, S, ?_, ?_, ?_, F9, fun x hx => .inl hx, fun y hy => by cases hy⟩
  · simp only [stepX, e9]; rfl
  · simp only [stepX, e9]; exact Ow.nil _ _ _
  · simp only [stepX, e9]; exact ⟨_, _, _, _, _, _, K9⟩

end Go.Proofs.Ytkijnpjefccepaa
end

section
namespace Go.Sha
open Go.RowKit
/-- results, states, saved states; whether a write has panicked -/
structure RX where
  rs : List Res
  all : List XS
  saved : List XS
  stop : Bool
def goX (p : XP) (s : RX) (x : Actn) : RX := if s.stop then s else ⟨s.rs ++ [(stepX p s.all s.saved x).1], (stepX p s.all s.saved x).2.1, (stepX p s.all s.saved x).2.2, (stepX p s.all s.saved x).1.pan⟩
def runXS (p : XP) (xs : List Actn) : RX := xs.foldl (goX p) ⟨[], [⟨p.hd, none⟩], [], false⟩
/-- the results of a script -/
def runX (p : XP) (xs : List Actn) : List Res := (runXS p xs).rs
theorem runXS_snoc (p : XP) (xs : List Actn) (x : Actn) : runXS p (xs ++ [x]) = goX p (runXS p xs) x := by simp [runXS]
theorem goX_stop (p : XP) (s : RX) (h : s.stop = true) (xs : List Actn) : xs.foldl (goX p) s = s := by
  induction xs with
  | nil => rfl
  | cons x xs ih => rw [List.foldl_cons, show goX p s x = s by unfold goX; rw [if_pos h], ih]
theorem stepX_len (p : XP) (all saved : List XS) (x : Actn) : all.length ≤ (stepX p all saved x).2.1.length ∧ (stepX p all saved x).2.1.length ≤ all.length + 1 ∧ (stepX p all saved x).2.2.length ≤ saved.length + 1 := by
  unfold stepX
  split <;> try (simp; done)
  · split <;> simp
  · split <;> simp
theorem foldX_len (p : XP) (xs : List Actn) : ∀ s : RX, (xs.foldl (goX p) s).rs.length ≤ s.rs.length + xs.length ∧ s.all.length ≤ (xs.foldl (goX p) s).all.length ∧ (xs.foldl (goX p) s).all.length ≤ s.all.length + xs.length ∧ (xs.foldl (goX p) s).saved.length ≤ s.saved.length + xs.length := by
  induction xs with
  | nil => intro s; simp
  | cons x xs ih =>
    intro s
    have h := stepX_len p s.all s.saved x
    have h2 := ih (goX p s x)
    simp only [List.foldl_cons, List.length_cons]
    unfold goX at h2 ⊢
    split at h2
    · rename_i hs
      rw [if_pos hs]
      omega
    · rename_i hs
      rw [if_neg hs]
      simp only [List.length_append, List.length_cons, List.length_nil] at h2
      omega
theorem runXS_len (p : XP) (xs : List Actn) : (runXS p xs).rs.length ≤ xs.length ∧ (runXS p xs).all.length ≤ xs.length + 1 ∧ (runXS p xs).saved.length ≤ xs.length := by
  have h := foldX_len p xs ⟨[], [⟨p.hd, none⟩], [], false⟩
  simp only [List.length_nil, List.length_cons] at h
  unfold runXS
  omega
theorem runXS_take_stop (p : XP) (xs : List Actn) (i : Nat) (h : (runXS p (xs.take i)).stop = true) : runXS p xs = runXS p (xs.take i) := by
  have e : xs = xs.take i ++ xs.drop i := (List.take_append_drop i xs).symm
  have e2 : runXS p (xs.take i ++ xs.drop i) = runXS p (xs.take i) := by
    unfold runXS
    rw [List.foldl_append]
    exact goX_stop p _ h _
  rw [← e] at e2
  exact e2
end Go.Sha
end
