/- One call of a script over hashes: Clone, Save, Append, Load. No condition but on lengths. -/
import Derived.Test.YtjgdbamlaajkmaaSav
namespace Go.Proofs.Ytjgdbamlaajkmaa
open Go.ChangeShapes Go.WideShapes Go.ChangeAt Go.RowKit Go.Sha
theorem sv_ne {w : World} {base hb : Nat} {kind : Int} {r o : Nat} {all saved : List Bs} {bs : List Nat} {ss : List (Nat × Nat)} {a1 a2 : Option Addr} {c1 c2 : Nat} {S : List Nat} (h : HI 50 45 22 60 w base hb kind r o all saved bs ss a1 c1 a2 c2 S) {x : Nat} {v0 v1 v2 v3 : Value} {T : Nat} (hx : w.heap[x]? = some (.cells #[v0, v1, v2, v3] T (0, 0))) (j : Nat) (hj : j < saved.length) : (ss.getD j (0, 0)).1 ≠ x := fun e => by
  have h1 := (h.sv j hj).1
  rcases h1.cel with h0 | ⟨b', o', hb', hc⟩
  · cases h0
  · simp only [Option.some.injEq, Addr.mk.injEq] at hb'
    obtain ⟨rfl, rfl, _⟩ := hb'
    have h2 := hc 5 (by decide)
    rw [e, cell_of hx] at h2
    simp at h2

set_option maxRecDepth 100000 in
set_option maxHeartbeats 600000 in
theorem act_clone (w : World) (base hb : Nat) (kind : Int) (r o : Nat) (all saved : List Bs) (bs : List Nat) (ss : List (Nat × Nat)) (a1 a2 : Option Addr) (c1 c2 : Nat) (S : List Nat) (ad : Option Addr) (nd cd : Nat) (data : Bs) (k att pick : Int) (h : HI 50 45 22 60 w base hb kind r o all saved bs ss a1 c1 a2 c2 S) (hS : Sl w ad nd cd data) (hnd : nd ≤ 140737488351232) (hall : all.length ≤ 1099511627776) (hkm : k % 10 = ((5 : Nat) : Int)) :
    Calls Try.prog 28 #[.pointer (some ⟨hb, 0, none⟩), .agg #[.int .i64 k, .int .i64 att, .int .i64 pick, .slice ad nd cd]] w (ActR base hb kind r o (stepH r o all saved ⟨k, att, pick, data⟩) S w) := by
  have hA0 := A1.start h hS k att pick
  obtain ⟨i, hi⟩ : ∃ i, i = ix att all.length := ⟨_, rfl⟩
  have hil : i < all.length := by rw [hi]; exact ix_lt _ _ h.pos
  have HIX : Hid (att % ((all.length : Nat) : Int) = (i : Int)) := by rw [hi]; exact ix_int _ _ h.pos
  have HII := Lib.hid hi
  have HKM : Hid (k % 10 = ((5 : Nat) : Int)) := hkm
  clear hi hkm
  obtain ⟨ga, hga, hac, hacm, _⟩ := HI_row h
  obtain ⟨b, hb0⟩ : ∃ b, b = bs.getD i 0 := ⟨_, rfl⟩
  obtain ⟨n, hnl⟩ : ∃ n, n = all.length := ⟨_, rfl⟩
  have hrt := Lib.hid h.rt
  have hapos := h.pos
  have HBB : Hid (bs.getD i 0 = b) := hb0.symm
  have HNL : Hid (all.length = n) := hnl.symm
  have HGA := Lib.hid hga
  rw [← hnl] at hil hac hapos hall HIX
  have hin : (i : Int) < (n : Int) := by omega
  have HIL : Hid (i < all.length) := by show _ < _; rw [HNL.out]; exact hil
  clear hb0 hnl
  have t0 : ((5 : Int) == 0) = false := by decide
  have t1 : ((5 : Int) == 1) = false := by decide
  have t2 : ((5 : Int) == 2) = false := by decide
  have t3 : ((5 : Int) == 3) = false := by decide
  have t4 : ((5 : Int) == 4) = false := by decide
  have t5 : ((5 : Int) == 5) = true := by decide
  subst hga
  have HH := Lib.hid h
  have HS := Lib.hid hS
  clear h hS
  go_enter Try.func28, Try.ntmps28
  go_wp2_with fail
  have R0 := hA0.keep (Fr.refl _ _).drew
  go_region_held3 (fun w' => w'.cell? ⟨hb, 1, none⟩ = some (.slice (some ⟨ga, 0, none⟩) n c1) ∧ w'.cell? ⟨w.heap.size, 1, none⟩ = some (.int .i64 att) ∧ w'.cell? ⟨w.heap.size, 3, none⟩ = some (.slice ad nd cd) ∧ w'.cell? ⟨ga, i, none⟩ = some (.pointer (some ⟨b, 0, none⟩)) ∧ A1 w base hb kind r o all saved bs ss (some ⟨ga, 0, none⟩) a2 c1 c2 S ad nd cd data k att pick w')
    (first | (exact R0.held HIL.out rfl HBB.out HNL.out) | (exact (R0.keep f5).held HIL.out rfl HBB.out HNL.out) | (go_keep))
    (first | (go_at_call 31; refine (place_nat att n i _ (by omega) (by omega) HIX.out).mono ?_; rintro e w4 ⟨rfl, rfl⟩) | (go_at_call 36; refine (copied_n ad nd cd data _ R0.sl (by omega)).mono ?_; rintro e w5 ⟨ao, co, rfl, O5, f5⟩))
  have R5 := R0.keep f5
  have q0 : w5.cell? ⟨w.heap.size, 0, none⟩ = some (.int .i64 k) := by rw [cell_of R5.b1]; rfl
  have OW5 : Hid (Ow w5 (w.heap.size + 1 + 1) 5 ao co data) := by
    have e5 := O5
    rw [show (((w.alloc (.cells #[.int .i64 k, .int .i64 att, .int .i64 pick, .slice ad nd cd] 26)).alloc (.cells #[.int .i64 0, .slice none 0 0, .bool false, .bool false] 31)).drew).heap.size = w.heap.size + 1 + 1 by simp [World.drew]] at e5
    exact e5
  have H5 := Lib.hid R5
  clear O5 R5 R0 hA0 f5
  go_wp2_with fail
  refine (place_nat k 10 5 _ (by decide) (by decide) HKM.out).mono ?_
  rintro e w5 ⟨rfl, rfl⟩
  clear q0
  have hs5 : Hid (HsAt w5 b 60 r o (all.getD i [])) := by have := H5.out.hi.hs i HIL.out; rw [HBB.out] at this; exact this
  have hbS : b ∈ S := by rw [← HBB.out]; exact HH.out.bsS _ (getD_mem (by rw [HH.out.bl]; exact HIL.out))
  have hbw : b < w.heap.size := HH.out.lt_of hbS
  have HBS := Lib.hid hbS
  clear hbS
  go_wp2_with fail
  refine (hclone_any w5 base hb kind r o all saved bs ss _ _ _ _ S i b H5.out.hi HIL.out HBB.out (by rw [HNL.out]; exact hall)).mono ?_
  rintro e w6 ⟨rfl, bs', ss', a1', c1', a2', c2', S', k6, f6, hsub⟩
  have K6 := Lib.hid k6
  have HSUB := Lib.hid hsub
  clear k6 hsub
  have G6 : Hid (w6.heap[w.heap.size + 1]? = some (.cells #[.int .i64 0, .slice none 0 0, .bool false, .bool false] 31 (0, 0))) := f6.obj H5.out.b2 (fun hm => by have := HH.out.lt_of hm; omega)
  go_wp2_with (refine wpList_store_bits rfl _ _ _ rfl (w.heap.size + 1) rfl 31 #[.int .i64 0, .slice none 0 0, .bool true, .bool false] #[.int .i64 0, .slice none 0 0, .bool false, .bool false] rfl G6.out rfl (by intro v hv; simp at hv; rcases hv with rfl | rfl | rfl | rfl <;> rfl) sizeRT ?_; refine Hid.out ?_)
  show wpList _ _ _ _ _ _
  have G9 := Lib.hid (setRow_heap _ _ _ (#[.int .i64 0, .slice none 0 0, .bool true, .bool false] : Array Value) _ _ G6.out)
  have f9 : Fr [w.heap.size + 1] w6 (w6.setRow (w.heap.size + 1) #[.int .i64 0, .slice none 0 0, .bool true, .bool false]) := (Fr.refl _ _).setRow _ _ (.inr (by simp))
  generalize w6.setRow (w.heap.size + 1) #[.int .i64 0, .slice none 0 0, .bool true, .bool false] = w9 at G9 f9 ⊢
  go_wp2_with fail
  refine bodyPost_ret (v := .agg #[.int .i64 0, .slice none 0 0, .bool true, .bool false]) (results_cell_row rfl _ _ (w.heap.size + 1) _ _ _ _ rfl G9.out Try.underlying31 rfl sizeRT) rfl ?_
  have F9 : Fr S w w9 := Fr_trans_new ((H5.out.fr.mono (by simp)).trans f6 : Fr S w w6) f9 (by simp)
  have hb5 : w.heap.size + 1 + 1 ≤ w5.heap.size := by have := (Array.getElem?_eq_some_iff.1 H5.out.b2).1; omega
  have K9 := HI_keepNew K6.out f9 (fun x hx => ⟨fun hm => by
    simp only [List.mem_cons, List.not_mem_nil, or_false] at hx
    subst hx
    rcases HSUB.out _ hm with h1 | h1
    · have := HH.out.lt_of h1
      omega
    · omega, fun j hj => by
    simp only [List.mem_cons, List.not_mem_nil, or_false] at hx
    subst hx
    exact sv_ne K6.out G6.out j hj⟩)
  have e9 : ix k 10 = 5 := by unfold ix; have := HKM.out; omega
  refine ⟨none, 0, S', ?_, ?_, ?_, F9, fun x hx => (HSUB.out x hx).imp id (fun h => by omega), fun y hy => by cases hy⟩
  · simp only [stepH, e9]; rfl
  · simp only [stepH, e9]; exact Ow.nil _ _ _
  · simp only [stepH, e9]; exact ⟨_, _, _, _, _, _, by rw [← HII.out]; exact K9⟩

set_option maxRecDepth 100000 in
set_option maxHeartbeats 600000 in
theorem act_save (w : World) (base hb : Nat) (kind : Int) (r o : Nat) (all saved : List Bs) (bs : List Nat) (ss : List (Nat × Nat)) (a1 a2 : Option Addr) (c1 c2 : Nat) (S : List Nat) (ad : Option Addr) (nd cd : Nat) (data : Bs) (k att pick : Int) (h : HI 50 45 22 60 w base hb kind r o all saved bs ss a1 c1 a2 c2 S) (hS : Sl w ad nd cd data) (hnd : nd ≤ 140737488351232) (hall : all.length ≤ 1099511627776) (hsvl : saved.length ≤ 1099511627776) (hkm : k % 10 = ((7 : Nat) : Int)) :
    Calls Try.prog 28 #[.pointer (some ⟨hb, 0, none⟩), .agg #[.int .i64 k, .int .i64 att, .int .i64 pick, .slice ad nd cd]] w (ActR base hb kind r o (stepH r o all saved ⟨k, att, pick, data⟩) S w) := by
  have hA0 := A1.start h hS k att pick
  obtain ⟨i, hi⟩ : ∃ i, i = ix att all.length := ⟨_, rfl⟩
  have hil : i < all.length := by rw [hi]; exact ix_lt _ _ h.pos
  have HIX : Hid (att % ((all.length : Nat) : Int) = (i : Int)) := by rw [hi]; exact ix_int _ _ h.pos
  have HII := Lib.hid hi
  have HKM : Hid (k % 10 = ((7 : Nat) : Int)) := hkm
  clear hi hkm
  obtain ⟨ga, hga, hac, hacm, _⟩ := HI_row h
  obtain ⟨b, hb0⟩ : ∃ b, b = bs.getD i 0 := ⟨_, rfl⟩
  obtain ⟨n, hnl⟩ : ∃ n, n = all.length := ⟨_, rfl⟩
  have hrt := Lib.hid h.rt
  have hapos := h.pos
  have HBB : Hid (bs.getD i 0 = b) := hb0.symm
  have HNL : Hid (all.length = n) := hnl.symm
  have HGA := Lib.hid hga
  rw [← hnl] at hil hac hapos hall HIX
  have hin : (i : Int) < (n : Int) := by omega
  have HIL : Hid (i < all.length) := by show _ < _; rw [HNL.out]; exact hil
  clear hb0 hnl
  have t0 : ((7 : Int) == 0) = false := by decide
  have t1 : ((7 : Int) == 1) = false := by decide
  have t2 : ((7 : Int) == 2) = false := by decide
  have t3 : ((7 : Int) == 3) = false := by decide
  have t4 : ((7 : Int) == 4) = false := by decide
  have t5 : ((7 : Int) == 5) = false := by decide
  have t6 : ((7 : Int) == 6) = false := by decide
  have t7 : ((7 : Int) == 7) = true := by decide
  subst hga
  have HH := Lib.hid h
  have HS := Lib.hid hS
  clear h hS
  go_enter Try.func28, Try.ntmps28
  go_wp2_with fail
  have R0 := hA0.keep (Fr.refl _ _).drew
  go_region_held3 (fun w' => w'.cell? ⟨hb, 1, none⟩ = some (.slice (some ⟨ga, 0, none⟩) n c1) ∧ w'.cell? ⟨w.heap.size, 1, none⟩ = some (.int .i64 att) ∧ w'.cell? ⟨w.heap.size, 3, none⟩ = some (.slice ad nd cd) ∧ w'.cell? ⟨ga, i, none⟩ = some (.pointer (some ⟨b, 0, none⟩)) ∧ A1 w base hb kind r o all saved bs ss (some ⟨ga, 0, none⟩) a2 c1 c2 S ad nd cd data k att pick w')
    (first | (exact R0.held HIL.out rfl HBB.out HNL.out) | (exact (R0.keep f5).held HIL.out rfl HBB.out HNL.out) | (go_keep))
    (first | (go_at_call 31; refine (place_nat att n i _ (by omega) (by omega) HIX.out).mono ?_; rintro e w4 ⟨rfl, rfl⟩) | (go_at_call 36; refine (copied_n ad nd cd data _ R0.sl (by omega)).mono ?_; rintro e w5 ⟨ao, co, rfl, O5, f5⟩))
  have R5 := R0.keep f5
  have q0 : w5.cell? ⟨w.heap.size, 0, none⟩ = some (.int .i64 k) := by rw [cell_of R5.b1]; rfl
  have OW5 : Hid (Ow w5 (w.heap.size + 1 + 1) 5 ao co data) := by
    have e5 := O5
    rw [show (((w.alloc (.cells #[.int .i64 k, .int .i64 att, .int .i64 pick, .slice ad nd cd] 26)).alloc (.cells #[.int .i64 0, .slice none 0 0, .bool false, .bool false] 31)).drew).heap.size = w.heap.size + 1 + 1 by simp [World.drew]] at e5
    exact e5
  have H5 := Lib.hid R5
  clear O5 R5 R0 hA0 f5
  go_wp2_with fail
  refine (place_nat k 10 7 _ (by decide) (by decide) HKM.out).mono ?_
  rintro e w5 ⟨rfl, rfl⟩
  clear q0
  have hs5 : Hid (HsAt w5 b 60 r o (all.getD i [])) := by have := H5.out.hi.hs i HIL.out; rw [HBB.out] at this; exact this
  have hbS : b ∈ S := by rw [← HBB.out]; exact HH.out.bsS _ (getD_mem (by rw [HH.out.bl]; exact HIL.out))
  have hbw : b < w.heap.size := HH.out.lt_of hbS
  have HBS := Lib.hid hbS
  clear hbS
  go_wp2_with fail
  refine (shaMarshal_any w5 b r o _ hrt.out hs5.out).mono ?_
  rintro e w6 ⟨asv, cs, rfl, o6, D6, f6⟩
  obtain ⟨gs, has, hgs, hcs, hcm⟩ := Ow_at0 o6 (by rw [marH_length _ _ _ hrt.out]; decide)
  rw [has] at o6 ⊢
  have O6 := Lib.hid o6
  have HD6 := Lib.hid D6
  have K6 : Hid (HI 50 45 22 60 w6 base hb kind r o all saved bs ss (some ⟨ga, 0, none⟩) c1 a2 c2 S) := by
    have := H5.out.hi.upd i HIL.out (all.getD i []) (by rw [HBB.out]; exact f6) (by rw [HBB.out]; exact .inl HD6.out)
    rw [set_getD] at this
    exact this
  have G6 : Hid (w6.heap[w.heap.size + 1]? = some (.cells #[.int .i64 0, .slice none 0 0, .bool false, .bool false] 31 (0, 0))) := f6.obj H5.out.b2 (by simp; omega)
  have F6 : Hid (Fr S w w6) := (H5.out.fr.mono (by simp)).trans (f6.mono (fun x _ hx => by simp at hx; rw [hx]; exact HBS.out))
  have hw6 : w.heap.size ≤ w6.heap.size := F6.out.size
  have hw65 : w5.heap.size ≤ w6.heap.size := f6.size
  have S6 : Hid (Sl w6 (some ⟨gs, 0, none⟩) (0 + 207) cs ([] ++ marH r o (all.getD i []))) := by
    have e := O6.out.sl_at (marH_length _ _ _ hrt.out)
    show Sl _ _ _ _ _
    rw [Nat.zero_add, List.nil_append]
    exact e
  have HGS : Hid (gs ∉ S) := fun hm => by have := HH.out.lt_of hm; have := H5.out.fr.size; omega
  clear o6 D6 has hcs hcm
  have SV : Hid (Calls Try.prog 44 #[.pointer (some ⟨hb, 0, none⟩), .slice none 0 0, .slice (some ⟨gs, 0, none⟩) 207 cs, .nilIface] w6 (SvR base hb kind r o [] all (saved ++ [all.getD i []]) S w6)) := hsave_any w6 base hb kind r o all saved bs ss _ _ _ _ S none 0 0 gs 0 cs [] (all.getD i []) K6.out rfl S6.out HGS.out (by omega) hsvl
  go_wp2_with fail
  refine SV.out.mono ?_
  rintro e w7 ⟨a7, c7, bs', ss', a1', c1', a2', c2', S', rfl, o7, k7, f7, hsub, hn7⟩
  rw [show ([] : Bs).length = 0 from rfl]
  have O7 := Lib.hid o7
  have K7 := Lib.hid k7
  have HSUB := Lib.hid hsub
  have HN7 := Lib.hid hn7
  clear o7 k7 hsub hn7
  have G7 : Hid (w7.heap[w.heap.size + 1]? = some (.cells #[.int .i64 0, .slice none 0 0, .bool false, .bool false] 31 (0, 0))) := f7.obj G6.out (fun hm => by have := HH.out.lt_of hm; omega)
  go_wp2_with (refine wpList_store_bits rfl _ _ _ rfl (w.heap.size + 1) rfl 31 #[.int .i64 0, .slice a7 0 c7, .bool true, .bool false] #[.int .i64 0, .slice none 0 0, .bool false, .bool false] rfl G7.out rfl (by intro v hv; simp at hv; rcases hv with rfl | rfl | rfl | rfl <;> rfl) sizeRT ?_; refine Hid.out ?_)
  show wpList _ _ _ _ _ _
  have G9 := Lib.hid (setRow_heap _ _ _ (#[.int .i64 0, .slice a7 0 c7, .bool true, .bool false] : Array Value) _ _ G7.out)
  have f9 : Fr [w.heap.size + 1] w7 (w7.setRow (w.heap.size + 1) #[.int .i64 0, .slice a7 0 c7, .bool true, .bool false]) := (Fr.refl _ _).setRow _ _ (.inr (by simp))
  generalize w7.setRow (w.heap.size + 1) #[.int .i64 0, .slice a7 0 c7, .bool true, .bool false] = w9 at G9 f9 ⊢
  go_wp2_with fail
  refine bodyPost_ret (v := .agg #[.int .i64 0, .slice a7 0 c7, .bool true, .bool false]) (results_cell_row rfl _ _ (w.heap.size + 1) _ _ _ _ rfl G9.out Try.underlying31 rfl sizeRT) rfl ?_
  have hb5 : w.heap.size + 1 + 1 ≤ w5.heap.size := by have := (Array.getElem?_eq_some_iff.1 H5.out.b2).1; omega
  have F9 : Fr S w w9 := Fr_trans_new (F6.out.trans f7) f9 (by simp)
  have K9 := HI_keepNew K7.out f9 (fun x hx => ⟨fun hm => by
    simp only [List.mem_cons, List.not_mem_nil, or_false] at hx
    subst hx
    rcases HSUB.out _ hm with h1 | h1
    · have := HH.out.lt_of h1
      omega
    · omega, fun j hj => by
    simp only [List.mem_cons, List.not_mem_nil, or_false] at hx
    subst hx
    exact sv_ne K7.out G7.out j hj⟩)
  have e9 : ix k 10 = 7 := by unfold ix; have := HKM.out; omega
  have O9 : Ow w9 w6.heap.size 5 a7 c7 ([]) := O7.out.keep f9 (fun x hx => by simp; omega)
  refine ⟨a7, c7, S', ?_, ?_, ?_, F9, fun x hx => (HSUB.out x hx).imp id (fun h => by omega), fun y hy hm => ?_⟩
  · simp only [stepH, e9]; rfl
  · simp only [stepH, e9]; exact O9.mono (by omega)
  · simp only [stepH, e9]; exact ⟨_, _, _, _, _, _, by rw [← HII.out]; exact K9⟩
  · exact HN7.out y hy hm

set_option maxRecDepth 100000 in
set_option maxHeartbeats 600000 in
theorem act_append (w : World) (base hb : Nat) (kind : Int) (r o : Nat) (all saved : List Bs) (bs : List Nat) (ss : List (Nat × Nat)) (a1 a2 : Option Addr) (c1 c2 : Nat) (S : List Nat) (ad : Option Addr) (nd cd : Nat) (data : Bs) (k att pick : Int) (h : HI 50 45 22 60 w base hb kind r o all saved bs ss a1 c1 a2 c2 S) (hS : Sl w ad nd cd data) (hnd : nd ≤ 140737488351232) (hall : all.length ≤ 1099511627776) (hsvl : saved.length ≤ 1099511627776) (hkm : k % 10 = ((8 : Nat) : Int)) :
    Calls Try.prog 28 #[.pointer (some ⟨hb, 0, none⟩), .agg #[.int .i64 k, .int .i64 att, .int .i64 pick, .slice ad nd cd]] w (ActR base hb kind r o (stepH r o all saved ⟨k, att, pick, data⟩) S w) := by
  have hA0 := A1.start h hS k att pick
  obtain ⟨i, hi⟩ : ∃ i, i = ix att all.length := ⟨_, rfl⟩
  have hil : i < all.length := by rw [hi]; exact ix_lt _ _ h.pos
  have HIX : Hid (att % ((all.length : Nat) : Int) = (i : Int)) := by rw [hi]; exact ix_int _ _ h.pos
  have HII := Lib.hid hi
  have HKM : Hid (k % 10 = ((8 : Nat) : Int)) := hkm
  clear hi hkm
  obtain ⟨ga, hga, hac, hacm, _⟩ := HI_row h
  obtain ⟨b, hb0⟩ : ∃ b, b = bs.getD i 0 := ⟨_, rfl⟩
  obtain ⟨n, hnl⟩ : ∃ n, n = all.length := ⟨_, rfl⟩
  have hrt := Lib.hid h.rt
  have hapos := h.pos
  have HBB : Hid (bs.getD i 0 = b) := hb0.symm
  have HNL : Hid (all.length = n) := hnl.symm
  have HGA := Lib.hid hga
  rw [← hnl] at hil hac hapos hall HIX
  have hin : (i : Int) < (n : Int) := by omega
  have HIL : Hid (i < all.length) := by show _ < _; rw [HNL.out]; exact hil
  clear hb0 hnl
  have t0 : ((8 : Int) == 0) = false := by decide
  have t1 : ((8 : Int) == 1) = false := by decide
  have t2 : ((8 : Int) == 2) = false := by decide
  have t3 : ((8 : Int) == 3) = false := by decide
  have t4 : ((8 : Int) == 4) = false := by decide
  have t5 : ((8 : Int) == 5) = false := by decide
  have t6 : ((8 : Int) == 6) = false := by decide
  have t7 : ((8 : Int) == 7) = false := by decide
  have t8 : ((8 : Int) == 8) = true := by decide
  subst hga
  have HH := Lib.hid h
  have HS := Lib.hid hS
  clear h hS
  go_enter Try.func28, Try.ntmps28
  go_wp2_with fail
  have R0 := hA0.keep (Fr.refl _ _).drew
  go_region_held3 (fun w' => w'.cell? ⟨hb, 1, none⟩ = some (.slice (some ⟨ga, 0, none⟩) n c1) ∧ w'.cell? ⟨w.heap.size, 1, none⟩ = some (.int .i64 att) ∧ w'.cell? ⟨w.heap.size, 3, none⟩ = some (.slice ad nd cd) ∧ w'.cell? ⟨ga, i, none⟩ = some (.pointer (some ⟨b, 0, none⟩)) ∧ A1 w base hb kind r o all saved bs ss (some ⟨ga, 0, none⟩) a2 c1 c2 S ad nd cd data k att pick w')
    (first | (exact R0.held HIL.out rfl HBB.out HNL.out) | (exact (R0.keep f5).held HIL.out rfl HBB.out HNL.out) | (go_keep))
    (first | (go_at_call 31; refine (place_nat att n i _ (by omega) (by omega) HIX.out).mono ?_; rintro e w4 ⟨rfl, rfl⟩) | (go_at_call 36; refine (copied_n ad nd cd data _ R0.sl (by omega)).mono ?_; rintro e w5 ⟨ao, co, rfl, O5, f5⟩))
  have R5 := R0.keep f5
  have q0 : w5.cell? ⟨w.heap.size, 0, none⟩ = some (.int .i64 k) := by rw [cell_of R5.b1]; rfl
  have OW5 : Hid (Ow w5 (w.heap.size + 1 + 1) 5 ao co data) := by
    have e5 := O5
    rw [show (((w.alloc (.cells #[.int .i64 k, .int .i64 att, .int .i64 pick, .slice ad nd cd] 26)).alloc (.cells #[.int .i64 0, .slice none 0 0, .bool false, .bool false] 31)).drew).heap.size = w.heap.size + 1 + 1 by simp [World.drew]] at e5
    exact e5
  have H5 := Lib.hid R5
  clear O5 R5 R0 hA0 f5
  go_wp2_with fail
  refine (place_nat k 10 8 _ (by decide) (by decide) HKM.out).mono ?_
  rintro e w5 ⟨rfl, rfl⟩
  clear q0
  have hs5 : Hid (HsAt w5 b 60 r o (all.getD i [])) := by have := H5.out.hi.hs i HIL.out; rw [HBB.out] at this; exact this
  have hbS : b ∈ S := by rw [← HBB.out]; exact HH.out.bsS _ (getD_mem (by rw [HH.out.bl]; exact HIL.out))
  have hbw : b < w.heap.size := HH.out.lt_of hbS
  have HBS := Lib.hid hbS
  clear hbS
  go_wp2_with fail
  have hb5 : w.heap.size + 1 + 1 ≤ w5.heap.size := by have := (Array.getElem?_eq_some_iff.1 H5.out.b2).1; omega
  refine (shaAppend_any w5 b r o _ ao nd co (w.heap.size + 1 + 1) data hrt.out hs5.out HS.out.len OW5.out hb5 (by omega) (by omega)).mono ?_
  rintro e w6 ⟨asv, cs, w6a, rfl, o6, D6, f6a, b6⟩
  have hlen : (data ++ marH r o (all.getD i [])).length = nd + 207 := by rw [List.length_append, HS.out.len, marH_length _ _ _ hrt.out]
  obtain ⟨gs, has, hgs, hcs, hcm⟩ := Ow_at0 o6 (by rw [hlen]; omega)
  rw [has] at o6 ⊢
  have O6 := Lib.hid o6
  have HD6 := Lib.hid D6
  have HLEN := Lib.hid hlen
  have K6 : Hid (HI 50 45 22 60 w6 base hb kind r o all saved bs ss (some ⟨ga, 0, none⟩) c1 a2 c2 S) := by
    have K6a := H5.out.hi.upd i HIL.out (all.getD i []) (by rw [HBB.out]; exact f6a) (by rw [HBB.out]; exact .inl HD6.out)
    rw [set_getD] at K6a
    exact HI_below K6a b6 (fun x hx => by have := HH.out.lt_of hx; omega) (fun j hj => by have := (HH.out.sv j hj).1.lt (x := ⟨(ss.getD j (0, 0)).1, 0, none⟩) rfl (by decide); simp only at this; omega)
  have G6 : Hid (w6.heap[w.heap.size + 1]? = some (.cells #[.int .i64 0, .slice none 0 0, .bool false, .bool false] 31 (0, 0))) := by
    have e1 := f6a.obj H5.out.b2 (show w.heap.size + 1 ∉ [b] by simp; omega)
    show _ = _
    rw [b6.block (w.heap.size + 1) (by omega)]
    exact e1
  have q6 : w6.cell? ⟨w.heap.size, 3, none⟩ = some (.slice ad nd cd) := by
    have e1 := f6a.obj H5.out.b1 (show w.heap.size ∉ [b] by simp; omega)
    have e2 : w6.heap[w.heap.size]? = _ := (b6.block w.heap.size (by omega)).trans e1
    rw [cell_of e2]
    rfl
  have F6 : Hid (Fr S w w6) := (((H5.out.fr.mono (by simp)).trans f6a : Fr [b] w w6a).of_belowB b6 (by omega)).mono (fun x _ hx => by simp at hx; rw [hx]; exact HBS.out)
  have hw6 : w.heap.size ≤ w6.heap.size := F6.out.size
  have hw65 : w5.heap.size ≤ w6.heap.size := Nat.le_trans f6a.size b6.size
  have S6 : Hid (Sl w6 (some ⟨gs, 0, none⟩) (nd + 207) cs (data ++ marH r o (all.getD i []))) := O6.out.sl_at HLEN.out
  have HGS : Hid (gs ∉ S) := fun hm => by have := HH.out.lt_of hm; omega
  clear o6 D6 has hcs hcm hlen
  have SV : Hid (Calls Try.prog 44 #[.pointer (some ⟨hb, 0, none⟩), .slice ad nd cd, .slice (some ⟨gs, 0, none⟩) (nd + 207) cs, .nilIface] w6 (SvR base hb kind r o data all (saved ++ [all.getD i []]) S w6)) := hsave_any w6 base hb kind r o all saved bs ss _ _ _ _ S ad nd cd gs 0 cs data (all.getD i []) K6.out HS.out.len S6.out HGS.out (by omega) hsvl
  go_wp2_with fail
  refine SV.out.mono ?_
  rintro e w7 ⟨a7, c7, bs', ss', a1', c1', a2', c2', S', rfl, o7, k7, f7, hsub, hn7⟩
  rw [HS.out.len]
  have O7 := Lib.hid o7
  have K7 := Lib.hid k7
  have HSUB := Lib.hid hsub
  have HN7 := Lib.hid hn7
  clear o7 k7 hsub hn7
  have G7 : Hid (w7.heap[w.heap.size + 1]? = some (.cells #[.int .i64 0, .slice none 0 0, .bool false, .bool false] 31 (0, 0))) := f7.obj G6.out (fun hm => by have := HH.out.lt_of hm; omega)
  go_wp2_with (refine wpList_store_bits rfl _ _ _ rfl (w.heap.size + 1) rfl 31 #[.int .i64 0, .slice a7 nd c7, .bool true, .bool false] #[.int .i64 0, .slice none 0 0, .bool false, .bool false] rfl G7.out rfl (by intro v hv; simp at hv; rcases hv with rfl | rfl | rfl | rfl <;> rfl) sizeRT ?_; refine Hid.out ?_)
  show wpList _ _ _ _ _ _
  have G9 := Lib.hid (setRow_heap _ _ _ (#[.int .i64 0, .slice a7 nd c7, .bool true, .bool false] : Array Value) _ _ G7.out)
  have f9 : Fr [w.heap.size + 1] w7 (w7.setRow (w.heap.size + 1) #[.int .i64 0, .slice a7 nd c7, .bool true, .bool false]) := (Fr.refl _ _).setRow _ _ (.inr (by simp))
  generalize w7.setRow (w.heap.size + 1) #[.int .i64 0, .slice a7 nd c7, .bool true, .bool false] = w9 at G9 f9 ⊢
  go_wp2_with fail
  refine bodyPost_ret (v := .agg #[.int .i64 0, .slice a7 nd c7, .bool true, .bool false]) (results_cell_row rfl _ _ (w.heap.size + 1) _ _ _ _ rfl G9.out Try.underlying31 rfl sizeRT) rfl ?_
  have hb5 : w.heap.size + 1 + 1 ≤ w5.heap.size := by have := (Array.getElem?_eq_some_iff.1 H5.out.b2).1; omega
  have F9 : Fr S w w9 := Fr_trans_new (F6.out.trans f7) f9 (by simp)
  have K9 := HI_keepNew K7.out f9 (fun x hx => ⟨fun hm => by
    simp only [List.mem_cons, List.not_mem_nil, or_false] at hx
    subst hx
    rcases HSUB.out _ hm with h1 | h1
    · have := HH.out.lt_of h1
      omega
    · omega, fun j hj => by
    simp only [List.mem_cons, List.not_mem_nil, or_false] at hx
    subst hx
    exact sv_ne K7.out G7.out j hj⟩)
  have e9 : ix k 10 = 8 := by unfold ix; have := HKM.out; omega
  have O9 : Ow w9 w6.heap.size 5 a7 c7 (data) := O7.out.keep f9 (fun x hx => by simp; omega)
  refine ⟨a7, c7, S', ?_, ?_, ?_, F9, fun x hx => (HSUB.out x hx).imp id (fun h => by omega), fun y hy hm => ?_⟩
  · simp only [stepH, e9]; rw [HS.out.len]
  · simp only [stepH, e9]; exact O9.mono (by omega)
  · simp only [stepH, e9]; exact ⟨_, _, _, _, _, _, by rw [← HII.out]; exact K9⟩
  · exact HN7.out y hy hm

end Go.Proofs.Ytjgdbamlaajkmaa
