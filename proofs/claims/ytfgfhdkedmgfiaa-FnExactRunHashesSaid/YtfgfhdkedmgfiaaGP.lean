/- Contracts and lemmas, merged: Act. Their conditions stand in each. -/
import Derived.Test.YtfgfhdkedmgfiaaGA
import Derived.Test.YtfgfhdkedmgfiaaGB
import Derived.Test.YtfgfhdkedmgfiaaGC
import Derived.Test.YtfgfhdkedmgfiaaGG
import Derived.Test.YtfgfhdkedmgfiaaGH
import Derived.Deep.RegionHeld3
import Derived.Deep.RegionLaw
section
namespace Go.Sha
open Go.RowKit
/-- one call: its result, what has been written to each hash, what has been saved -/
def stepH (r o : Nat) (all saved : List Bs) (x : Actn) : Res × List Bs × List Bs :=
  match ix x.k 10 with
  | 0 => (⟨x.data.length, x.data, true, false⟩, all.set (ix x.at_ all.length) (all.getD (ix x.at_ all.length) [] ++ x.data), saved)
  | 1 => (⟨0, x.data ++ hsum r o (all.getD (ix x.at_ all.length) []), false, false⟩, all, saved)
  | 2 => (⟨0, [], false, false⟩, all.set (ix x.at_ all.length) [], saved)
  | 3 => (⟨o, [], false, false⟩, all, saved)
  | 4 => (⟨r, [], false, false⟩, all, saved)
  | 5 => (⟨0, [], true, false⟩, all ++ [all.getD (ix x.at_ all.length) []], saved)
  | 6 => (⟨0, [], false, false⟩, all ++ [[]], saved)
  | 7 => (⟨0, [], true, false⟩, all, saved ++ [all.getD (ix x.at_ all.length) []])
  | 8 => (⟨0, x.data, true, false⟩, all, saved ++ [all.getD (ix x.at_ all.length) []])
  | _ => if saved.length = 0 then (⟨0, [], false, false⟩, all, saved) else (⟨0, [], true, false⟩, all.set (ix x.at_ all.length) (saved.getD (ix x.pick saved.length) []), saved)
end Go.Sha
namespace Go.Proofs.Ytfgfhdkedmgfiaa
open Go.ChangeShapes Go.WideShapes Go.ChangeAt Go.RowKit Go.Sha
/-- the state of a script -/
def HInv (w : World) (base hb : Nat) (kind : Int) (r o : Nat) (all saved : List Bs) (S : List Nat) : Prop := ∃ bs ss a1 c1 a2 c2, HI 60 56 22 86 w base hb kind r o all saved bs ss a1 c1 a2 c2 S
/-- what a call leaves -/
def ActR (base hb : Nat) (kind : Int) (r o : Nat) (x : Res × List Bs × List Bs) (S : List Nat) (w : World) (e : Ending) (w' : World) : Prop :=
  ∃ a c S', e = .returned (.agg #[.int .i64 x.1.n, .slice a x.1.data.length c, .bool x.1.ok, .bool x.1.pan]) ∧ Ow w' w.heap.size 5 a c x.1.data ∧ HInv w' base hb kind r o x.2.1 x.2.2 S' ∧ Fr S w w' ∧ (∀ k ∈ S', k ∈ S ∨ w.heap.size ≤ k) ∧ (∀ y, a = some y → y.block ∉ S')
theorem HI_row {w : World} {base hb : Nat} {kind : Int} {r o : Nat} {all saved : List Bs} {bs : List Nat} {ss : List (Nat × Nat)} {a1 a2 : Option Addr} {c1 c2 : Nat} {S : List Nat} (h : HI 60 56 22 86 w base hb kind r o all saved bs ss a1 c1 a2 c2 S) :
    ∃ ga, a1 = some ⟨ga, 0, none⟩ ∧ all.length ≤ c1 ∧ c1 ≤ 9223372036854775807 ∧ ∀ i, i < all.length → w.cell? ⟨ga, i, none⟩ = some (ptr (bs.getD i 0)) := by
  rcases h.rowA.2 with ⟨h2, h0⟩ | ⟨g, cap, cur, hv, hb', hg, hn, hm, hs, ht⟩
  · have := h.pos
    omega
  · simp only [Value.slice.injEq] at hv
    obtain ⟨rfl, _, rfl⟩ := hv
    refine ⟨g, rfl, hn, by unfold maxLen at hm; omega, fun i hi => ?_⟩
    have h4 : (cur.toList.take (all.length * 1))[i]? = (bs.map ptr)[i]? := by rw [ht]
    have h5 : (bs.map ptr)[i]? = some (ptr (bs.getD i 0)) := by
      rw [List.getElem?_map, List.getD_eq_getElem?_getD, List.getElem?_eq_getElem (l := bs) (by rw [h.bl]; exact hi)]
      rfl
    rw [List.getElem?_take_of_lt (by omega), h5, Array.getElem?_toList] at h4
    simp only [World.cell?, hg]
    exact h4
theorem HI_keepNew {w w' : World} {base hb : Nat} {kind : Int} {r o : Nat} {all saved : List Bs} {bs : List Nat} {ss : List (Nat × Nat)} {a1 a2 : Option Addr} {c1 c2 : Nat} {S T : List Nat} (h : HI 60 56 22 86 w base hb kind r o all saved bs ss a1 c1 a2 c2 S) (hf : Fr T w w') (hT : ∀ x ∈ T, x ∉ S ∧ ∀ i, i < saved.length → (ss.getD i (0, 0)).1 ≠ x) :
    HI 60 56 22 86 w' base hb kind r o all saved bs ss a1 c1 a2 c2 S :=
  ⟨hf.obj h.blk (fun hx => (hT _ hx).1 h.hbS), h.bl, ownsRow_keep h.rowA hf (fun k hk hx => by obtain ⟨x, hx', rfl⟩ := ownBlock_some hk; exact (hT _ hx).1 (h.a1S x hx')), fun i hi => (h.hs i hi).keep hf (fun hx => (hT _ hx).1 (h.bsS _ (getD_mem (by rw [h.bl]; exact hi)))), h.nodup, h.sl,
   ownsRow_keep h.rowS hf (fun k hk hx => by obtain ⟨x, hx', rfl⟩ := ownBlock_some hk; exact (hT _ hx).1 (h.a2S x hx')), fun i hi => ⟨(h.sv i hi).1.keep hf (fun x hx _ hm => by simp only [Option.some.injEq] at hx; subst hx; exact (hT _ hm).2 i hi rfl), (h.sv i hi).2⟩, h.hbS, h.bsS, h.a1S, h.a2S, h.hbbs, h.a1bs, h.a2bs, h.a12, fun k hk => ⟨(h.Slt k hk).1, Nat.lt_of_lt_of_le (h.Slt k hk).2 hf.size⟩, h.pos, h.rt⟩
theorem newOk {w : World} {base hb : Nat} {kind : Int} {r o : Nat} {all saved : List Bs} {bs : List Nat} {ss : List (Nat × Nat)} {a1 a2 : Option Addr} {c1 c2 : Nat} {S : List Nat} (h : HI 60 56 22 86 w base hb kind r o all saved bs ss a1 c1 a2 c2 S) : ∀ x ∈ [w.heap.size + 1], x ∉ S ∧ ∀ i, i < saved.length → (ss.getD i (0, 0)).1 ≠ x := fun x hx => by
  simp only [List.mem_cons, List.not_mem_nil, or_false] at hx
  subst hx
  refine ⟨fun hm => ?_, fun i hi e => ?_⟩
  · have := h.lt_of hm
    omega
  · have := (h.sv i hi).1.lt (x := ⟨(ss.getD i (0, 0)).1, 0, none⟩) rfl (by decide)
    simp only at this
    omega
theorem below_fr {B : Nat} {w w' : World} (h : Below B w w') : Fr (List.range' B (w.heap.size - B)) w w' :=
  ⟨h.os, h.tape, h.output, h.size, fun k hk hs => h.block k (by
    rcases Nat.lt_or_ge k B with h1 | h1
    · exact h1
    · exact absurd (List.mem_range'_1.2 ⟨h1, by omega⟩) hs)⟩
theorem HI_below {w w' : World} {base hb B : Nat} {kind : Int} {r o : Nat} {all saved : List Bs} {bs : List Nat} {ss : List (Nat × Nat)} {a1 a2 : Option Addr} {c1 c2 : Nat} {S : List Nat} (h : HI 60 56 22 86 w base hb kind r o all saved bs ss a1 c1 a2 c2 S) (hf : Below B w w') (hS : ∀ x ∈ S, x < B) (hs : ∀ i, i < saved.length → (ss.getD i (0, 0)).1 < B) :
    HI 60 56 22 86 w' base hb kind r o all saved bs ss a1 c1 a2 c2 S := HI_keepNew h (below_fr hf) (fun x hx => by
      have := (List.mem_range'_1.1 hx).1
      exact ⟨fun hm => by have := hS x hm; omega, fun i hi e => by have := hs i hi; omega⟩)
/-- what is known at the start of a call, carried through its first statement -/
structure A1 (w : World) (base hb : Nat) (kind : Int) (r o : Nat) (all saved : List Bs) (bs : List Nat) (ss : List (Nat × Nat)) (a1 a2 : Option Addr) (c1 c2 : Nat) (S : List Nat) (ad : Option Addr) (nd cd : Nat) (data : Bs) (k att pick : Int) (wr : World) : Prop where
  hi : HI 60 56 22 86 wr base hb kind r o all saved bs ss a1 c1 a2 c2 S
  sl : Sl wr ad nd cd data
  b1 : wr.heap[w.heap.size]? = some (.cells #[.int .i64 k, .int .i64 att, .int .i64 pick, .slice ad nd cd] 26 (0, 0))
  b2 : wr.heap[w.heap.size + 1]? = some (.cells #[.int .i64 0, .slice none 0 0, .bool false, .bool false] 31 (0, 0))
  fr : Fr [] w wr
section
variable {w wr w' : World} {base hb : Nat} {kind : Int} {r o : Nat} {all saved : List Bs} {bs : List Nat} {ss : List (Nat × Nat)} {a1 a2 : Option Addr} {c1 c2 : Nat} {S : List Nat} {ad : Option Addr} {nd cd : Nat} {data : Bs} {k att pick : Int}
theorem A1.keep (h : A1 w base hb kind r o all saved bs ss a1 a2 c1 c2 S ad nd cd data k att pick wr) (hf : Fr [] wr w') : A1 w base hb kind r o all saved bs ss a1 a2 c1 c2 S ad nd cd data k att pick w' :=
  ⟨h.hi.keep0 hf, h.sl.keep0 hf, hf.obj h.b1 (by simp), hf.obj h.b2 (by simp), h.fr.trans hf⟩
theorem A1.start (h : HI 60 56 22 86 w base hb kind r o all saved bs ss a1 c1 a2 c2 S) (hS : Sl w ad nd cd data) (k att pick : Int) :
    A1 w base hb kind r o all saved bs ss a1 a2 c1 c2 S ad nd cd data k att pick ((w.alloc (.cells #[.int .i64 k, .int .i64 att, .int .i64 pick, .slice ad nd cd] 26)).alloc (.cells #[.int .i64 0, .slice none 0 0, .bool false, .bool false] 31)) := by
  have f : Fr [] w ((w.alloc (.cells #[.int .i64 k, .int .i64 att, .int .i64 pick, .slice ad nd cd] 26)).alloc (.cells #[.int .i64 0, .slice none 0 0, .bool false, .bool false] 31)) := ((Fr.refl _ _).alloc _).alloc _
  refine ⟨h.keep0 f, hS.keep0 f, ((Fr.refl [] _).alloc _).obj (Go.heap_alloc_new w _) (by simp), ?_, f⟩
  have e := Go.heap_alloc_new (w.alloc (.cells #[.int .i64 k, .int .i64 att, .int .i64 pick, .slice ad nd cd] 26)) (.cells #[.int .i64 0, .slice none 0 0, .bool false, .bool false] 31)
  rw [show (w.alloc (.cells #[.int .i64 k, .int .i64 att, .int .i64 pick, .slice ad nd cd] 26)).heap.size = w.heap.size + 1 by simp] at e
  exact e
/-- the cells that the first statement reads -/
theorem A1.held (h : A1 w base hb kind r o all saved bs ss a1 a2 c1 c2 S ad nd cd data k att pick wr) {i ga n : Nat} {b : Nat} (hi : i < all.length) (ha : a1 = some ⟨ga, 0, none⟩) (hb' : bs.getD i 0 = b) (hn : all.length = n) :
    wr.cell? ⟨hb, 1, none⟩ = some (.slice (some ⟨ga, 0, none⟩) n c1) ∧ wr.cell? ⟨w.heap.size, 1, none⟩ = some (.int .i64 att) ∧ wr.cell? ⟨w.heap.size, 3, none⟩ = some (.slice ad nd cd) ∧ wr.cell? ⟨ga, i, none⟩ = some (.pointer (some ⟨b, 0, none⟩)) ∧ A1 w base hb kind r o all saved bs ss a1 a2 c1 c2 S ad nd cd data k att pick wr := by
  obtain ⟨ga', e1, _, _, hc⟩ := HI_row h.hi
  rw [ha] at e1
  simp only [Option.some.injEq, Addr.mk.injEq] at e1
  obtain ⟨rfl, _, _⟩ := e1
  refine ⟨?_, by rw [cell_of h.b1]; rfl, by rw [cell_of h.b1]; rfl, by rw [hc i hi, hb']; rfl, h⟩
  rw [cell_of h.hi.blk, ha, hn]
  rfl
end

set_option maxRecDepth 100000 in
set_option maxHeartbeats 600000 in
theorem act_size (w : World) (base hb : Nat) (kind : Int) (r o : Nat) (all saved : List Bs) (bs : List Nat) (ss : List (Nat × Nat)) (a1 a2 : Option Addr) (c1 c2 : Nat) (S : List Nat) (ad : Option Addr) (nd cd : Nat) (data : Bs) (k att pick : Int) (h : HI 60 56 22 86 w base hb kind r o all saved bs ss a1 c1 a2 c2 S) (hS : Sl w ad nd cd data) (hnd : nd ≤ 140737488351232) (hall : all.length ≤ 3000000000000) (hkm : k % 10 = ((3 : Nat) : Int)) :
    Calls Try.prog 39 #[.pointer (some ⟨hb, 0, none⟩), .agg #[.int .i64 k, .int .i64 att, .int .i64 pick, .slice ad nd cd]] w (ActR base hb kind r o (stepH r o all saved ⟨k, att, pick, data⟩) S w) := by
  have hA0 := A1.start h hS k att pick
  obtain ⟨i, hi⟩ : ∃ i, i = ix att all.length := ⟨_, rfl⟩
  have hil : i < all.length := by rw [hi]; exact ix_lt _ _ h.pos
  have HIX : Hid (att % ((all.length : Nat) : Int) = (i : Int)) := by rw [hi]; exact ix_int _ _ h.pos
  have HII := Lib.hid hi
  have HKM : Hid (k % 10 = ((3 : Nat) : Int)) := hkm
  clear hi hkm
  obtain ⟨ga, hga, hac, hacm, _⟩ := HI_row h
  obtain ⟨b, hb0⟩ : ∃ b, b = bs.getD i 0 := ⟨_, rfl⟩
  obtain ⟨n, hnl⟩ : ∃ n, n = all.length := ⟨_, rfl⟩
  have hrt := Lib.hid h.rt
  have hapos := h.pos
  have HBB : Hid (bs.getD i 0 = b) := hb0.symm
  have HNL : Hid (all.length = n) := hnl.symm
  have HGA := Lib.hid hga
  rw [← hnl] at hil hac hapos hall HIX
  have hin : (i : Int) < (n : Int) := by omega
  have HIL : Hid (i < all.length) := by show _ < _; rw [HNL.out]; exact hil
  clear hb0 hnl
  have t0 : ((3 : Int) == 0) = false := by decide
  have t1 : ((3 : Int) == 1) = false := by decide
  have t2 : ((3 : Int) == 2) = false := by decide
  have t3 : ((3 : Int) == 3) = true := by decide
  subst hga
  have HH := Lib.hid h
  have HS := Lib.hid hS
  clear h hS
  go_enter Try.func39, Try.ntmps39
  go_wp2_with fail
  have R0 := hA0.keep (Fr.refl _ _).drew
  go_region_held3 (fun w' => w'.cell? ⟨hb, 1, none⟩ = some (.slice (some ⟨ga, 0, none⟩) n c1) ∧ w'.cell? ⟨w.heap.size, 1, none⟩ = some (.int .i64 att) ∧ w'.cell? ⟨w.heap.size, 3, none⟩ = some (.slice ad nd cd) ∧ w'.cell? ⟨ga, i, none⟩ = some (.pointer (some ⟨b, 0, none⟩)) ∧ A1 w base hb kind r o all saved bs ss (some ⟨ga, 0, none⟩) a2 c1 c2 S ad nd cd data k att pick w')
    (first | (exact R0.held HIL.out rfl HBB.out HNL.out) | (exact (R0.keep f5).held HIL.out rfl HBB.out HNL.out) | (go_keep))
    (first | (go_at_call 56; refine (place_nat att n i _ (by omega) (by omega) HIX.out).mono ?_; rintro e w4 ⟨rfl, rfl⟩) | (go_at_call 61; refine (copied_n ad nd cd data _ R0.sl (by omega)).mono ?_; rintro e w5 ⟨ao, co, rfl, O5, f5⟩))
  have R5 := R0.keep f5
  have q0 : w5.cell? ⟨w.heap.size, 0, none⟩ = some (.int .i64 k) := by rw [cell_of R5.b1]; rfl
  have OW5 : Hid (Ow w5 (w.heap.size + 1 + 1) 5 ao co data) := by
    have e5 := O5
    rw [show (((w.alloc (.cells #[.int .i64 k, .int .i64 att, .int .i64 pick, .slice ad nd cd] 26)).alloc (.cells #[.int .i64 0, .slice none 0 0, .bool false, .bool false] 31)).drew).heap.size = w.heap.size + 1 + 1 by simp [World.drew]] at e5
    exact e5
  have H5 := Lib.hid R5
  clear O5 R5 R0 hA0 f5
  go_wp2_with fail
  refine (place_nat k 10 3 _ (by decide) (by decide) HKM.out).mono ?_
  rintro e w5 ⟨rfl, rfl⟩
  clear q0
  have hs5 : Hid (HsAt w5 b 86 r o (all.getD i [])) := by have := H5.out.hi.hs i HIL.out; rw [HBB.out] at this; exact this
  have hbS : b ∈ S := by rw [← HBB.out]; exact HH.out.bsS _ (getD_mem (by rw [HH.out.bl]; exact HIL.out))
  have hbw : b < w.heap.size := HH.out.lt_of hbS
  have HBS := Lib.hid hbS
  clear hbS
  go_wp2_with fail
  refine (shaSize_any w5 b r o _ hrt.out hs5.out).mono ?_
  rintro e w6 ⟨rfl, D6, f6⟩
  have HD6 := Lib.hid D6
  clear D6
  have G6 : Hid (w6.heap[w.heap.size + 1]? = some (.cells #[.int .i64 0, .slice none 0 0, .bool false, .bool false] 31 (0, 0))) := f6.obj H5.out.b2 (by simp; omega)
  go_wp2_with (refine wpList_store_bits rfl _ _ _ rfl (w.heap.size + 1) rfl 31 #[.int .i64 (o : Int), .slice none 0 0, .bool false, .bool false] #[.int .i64 0, .slice none 0 0, .bool false, .bool false] rfl G6.out rfl (by intro v hv; simp at hv; rcases hv with rfl | rfl | rfl | rfl <;> rfl) sizeRT ?_; refine Hid.out ?_)
  show wpList _ _ _ _ _ _
  have G9 := Lib.hid (setRow_heap _ _ _ (#[.int .i64 (o : Int), .slice none 0 0, .bool false, .bool false] : Array Value) _ _ G6.out)
  have f9 : Fr [w.heap.size + 1] w6 (w6.setRow (w.heap.size + 1) #[.int .i64 (o : Int), .slice none 0 0, .bool false, .bool false]) := (Fr.refl _ _).setRow _ _ (.inr (by simp))
  generalize w6.setRow (w.heap.size + 1) #[.int .i64 (o : Int), .slice none 0 0, .bool false, .bool false] = w9 at G9 f9 ⊢
  go_wp2_with fail
  refine bodyPost_ret (v := .agg #[.int .i64 (o : Int), .slice none 0 0, .bool false, .bool false]) (results_cell_row rfl _ _ (w.heap.size + 1) _ _ _ _ rfl G9.out Try.underlying31 rfl sizeRT) rfl ?_
  have F9 : Fr S w w9 := Fr_trans_new ((H5.out.fr.mono (by simp)).trans (f6.mono (fun x _ hx => by simp at hx; rw [hx]; exact HBS.out)) : Fr S w w6) f9 (by simp)
  have K9 : HI 60 56 22 86 w9 base hb kind r o (all.set i (all.getD i [])) saved bs ss (some ⟨ga, 0, none⟩) c1 a2 c2 S := HI_keepNew (H5.out.hi.upd i HIL.out (all.getD i []) (by rw [HBB.out]; exact f6) (by rw [HBB.out]; exact .inl HD6.out)) f9 (newOk HH.out)
  have e9 : ix k 10 = 3 := by unfold ix; have := HKM.out; omega
  refine ⟨none, 0, S, ?_, ?_, ?_, F9, fun x hx => .inl hx, fun y hy => by cases hy⟩
  · simp only [stepH, e9]; rfl
  · simp only [stepH, e9]; exact Ow.nil _ _ _
  · simp only [stepH, e9]; exact ⟨_, _, _, _, _, _, by have := K9; rw [set_getD] at this; exact this⟩

set_option maxRecDepth 100000 in
set_option maxHeartbeats 600000 in
theorem act_block (w : World) (base hb : Nat) (kind : Int) (r o : Nat) (all saved : List Bs) (bs : List Nat) (ss : List (Nat × Nat)) (a1 a2 : Option Addr) (c1 c2 : Nat) (S : List Nat) (ad : Option Addr) (nd cd : Nat) (data : Bs) (k att pick : Int) (h : HI 60 56 22 86 w base hb kind r o all saved bs ss a1 c1 a2 c2 S) (hS : Sl w ad nd cd data) (hnd : nd ≤ 140737488351232) (hall : all.length ≤ 3000000000000) (hkm : k % 10 = ((4 : Nat) : Int)) :
    Calls Try.prog 39 #[.pointer (some ⟨hb, 0, none⟩), .agg #[.int .i64 k, .int .i64 att, .int .i64 pick, .slice ad nd cd]] w (ActR base hb kind r o (stepH r o all saved ⟨k, att, pick, data⟩) S w) := by
  have hA0 := A1.start h hS k att pick
  obtain ⟨i, hi⟩ : ∃ i, i = ix att all.length := ⟨_, rfl⟩
  have hil : i < all.length := by rw [hi]; exact ix_lt _ _ h.pos
  have HIX : Hid (att % ((all.length : Nat) : Int) = (i : Int)) := by rw [hi]; exact ix_int _ _ h.pos
  have HII := Lib.hid hi
  have HKM : Hid (k % 10 = ((4 : Nat) : Int)) := hkm
  clear hi hkm
  obtain ⟨ga, hga, hac, hacm, _⟩ := HI_row h
  obtain ⟨b, hb0⟩ : ∃ b, b = bs.getD i 0 := ⟨_, rfl⟩
  obtain ⟨n, hnl⟩ : ∃ n, n = all.length := ⟨_, rfl⟩
  have hrt := Lib.hid h.rt
  have hapos := h.pos
  have HBB : Hid (bs.getD i 0 = b) := hb0.symm
  have HNL : Hid (all.length = n) := hnl.symm
  have HGA := Lib.hid hga
  rw [← hnl] at hil hac hapos hall HIX
  have hin : (i : Int) < (n : Int) := by omega
  have HIL : Hid (i < all.length) := by show _ < _; rw [HNL.out]; exact hil
  clear hb0 hnl
  have t0 : ((4 : Int) == 0) = false := by decide
  have t1 : ((4 : Int) == 1) = false := by decide
  have t2 : ((4 : Int) == 2) = false := by decide
  have t3 : ((4 : Int) == 3) = false := by decide
  have t4 : ((4 : Int) == 4) = true := by decide
  subst hga
  have HH := Lib.hid h
  have HS := Lib.hid hS
  clear h hS
  go_enter Try.func39, Try.ntmps39
  go_wp2_with fail
  have R0 := hA0.keep (Fr.refl _ _).drew
  go_region_held3 (fun w' => w'.cell? ⟨hb, 1, none⟩ = some (.slice (some ⟨ga, 0, none⟩) n c1) ∧ w'.cell? ⟨w.heap.size, 1, none⟩ = some (.int .i64 att) ∧ w'.cell? ⟨w.heap.size, 3, none⟩ = some (.slice ad nd cd) ∧ w'.cell? ⟨ga, i, none⟩ = some (.pointer (some ⟨b, 0, none⟩)) ∧ A1 w base hb kind r o all saved bs ss (some ⟨ga, 0, none⟩) a2 c1 c2 S ad nd cd data k att pick w')
    (first | (exact R0.held HIL.out rfl HBB.out HNL.out) | (exact (R0.keep f5).held HIL.out rfl HBB.out HNL.out) | (go_keep))
    (first | (go_at_call 56; refine (place_nat att n i _ (by omega) (by omega) HIX.out).mono ?_; rintro e w4 ⟨rfl, rfl⟩) | (go_at_call 61; refine (copied_n ad nd cd data _ R0.sl (by omega)).mono ?_; rintro e w5 ⟨ao, co, rfl, O5, f5⟩))
  have R5 := R0.keep f5
  have q0 : w5.cell? ⟨w.heap.size, 0, none⟩ = some (.int .i64 k) := by rw [cell_of R5.b1]; rfl
  have OW5 : Hid (Ow w5 (w.heap.size + 1 + 1) 5 ao co data) := by
    have e5 := O5
    rw [show (((w.alloc (.cells #[.int .i64 k, .int .i64 att, .int .i64 pick, .slice ad nd cd] 26)).alloc (.cells #[.int .i64 0, .slice none 0 0, .bool false, .bool false] 31)).drew).heap.size = w.heap.size + 1 + 1 by simp [World.drew]] at e5
    exact e5
  have H5 := Lib.hid R5
  clear O5 R5 R0 hA0 f5
  go_wp2_with fail
  refine (place_nat k 10 4 _ (by decide) (by decide) HKM.out).mono ?_
  rintro e w5 ⟨rfl, rfl⟩
  clear q0
  have hs5 : Hid (HsAt w5 b 86 r o (all.getD i [])) := by have := H5.out.hi.hs i HIL.out; rw [HBB.out] at this; exact this
  have hbS : b ∈ S := by rw [← HBB.out]; exact HH.out.bsS _ (getD_mem (by rw [HH.out.bl]; exact HIL.out))
  have hbw : b < w.heap.size := HH.out.lt_of hbS
  have HBS := Lib.hid hbS
  clear hbS
  go_wp2_with fail
  refine (shaBlockSize_any w5 b r o _ hrt.out hs5.out).mono ?_
  rintro e w6 ⟨rfl, D6, f6⟩
  have HD6 := Lib.hid D6
  clear D6
  have G6 : Hid (w6.heap[w.heap.size + 1]? = some (.cells #[.int .i64 0, .slice none 0 0, .bool false, .bool false] 31 (0, 0))) := f6.obj H5.out.b2 (by simp; omega)
  go_wp2_with (refine wpList_store_bits rfl _ _ _ rfl (w.heap.size + 1) rfl 31 #[.int .i64 (r : Int), .slice none 0 0, .bool false, .bool false] #[.int .i64 0, .slice none 0 0, .bool false, .bool false] rfl G6.out rfl (by intro v hv; simp at hv; rcases hv with rfl | rfl | rfl | rfl <;> rfl) sizeRT ?_; refine Hid.out ?_)
  show wpList _ _ _ _ _ _
  have G9 := Lib.hid (setRow_heap _ _ _ (#[.int .i64 (r : Int), .slice none 0 0, .bool false, .bool false] : Array Value) _ _ G6.out)
  have f9 : Fr [w.heap.size + 1] w6 (w6.setRow (w.heap.size + 1) #[.int .i64 (r : Int), .slice none 0 0, .bool false, .bool false]) := (Fr.refl _ _).setRow _ _ (.inr (by simp))
  generalize w6.setRow (w.heap.size + 1) #[.int .i64 (r : Int), .slice none 0 0, .bool false, .bool false] = w9 at G9 f9 ⊢
  go_wp2_with fail
  refine bodyPost_ret (v := .agg #[.int .i64 (r : Int), .slice none 0 0, .bool false, .bool false]) (results_cell_row rfl _ _ (w.heap.size + 1) _ _ _ _ rfl G9.out Try.underlying31 rfl sizeRT) rfl ?_
  have F9 : Fr S w w9 := Fr_trans_new ((H5.out.fr.mono (by simp)).trans (f6.mono (fun x _ hx => by simp at hx; rw [hx]; exact HBS.out)) : Fr S w w6) f9 (by simp)
  have K9 : HI 60 56 22 86 w9 base hb kind r o (all.set i (all.getD i [])) saved bs ss (some ⟨ga, 0, none⟩) c1 a2 c2 S := HI_keepNew (H5.out.hi.upd i HIL.out (all.getD i []) (by rw [HBB.out]; exact f6) (by rw [HBB.out]; exact .inl HD6.out)) f9 (newOk HH.out)
  have e9 : ix k 10 = 4 := by unfold ix; have := HKM.out; omega
  refine ⟨none, 0, S, ?_, ?_, ?_, F9, fun x hx => .inl hx, fun y hy => by cases hy⟩
  · simp only [stepH, e9]; rfl
  · simp only [stepH, e9]; exact Ow.nil _ _ _
  · simp only [stepH, e9]; exact ⟨_, _, _, _, _, _, by have := K9; rw [set_getD] at this; exact this⟩

end Go.Proofs.Ytfgfhdkedmgfiaa
end
