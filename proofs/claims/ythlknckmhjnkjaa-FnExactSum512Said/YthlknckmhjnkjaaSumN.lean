/- Sum224, Sum256, Sum384 and Sum512 of the library and of the thin package. No condition but the form's own reach on the bytes. -/
import Derived.Test.YthlknckmhjnkjaaSumG
import Derived.Test.YthlknckmhjnkjaaSumS
namespace Go.Sha
open Go.RowKit
theorem hashD_xof (r o : Nat) (ds : UInt8) (data : Bs) (h0 : 0 < r) (hr : r ≤ 168) : hashD (absorb (newD r o ds) data) = xof r o ds data o := by
  unfold hashD xof
  rw [(absorb_ok (newD_ok r o ds h0 hr) data).2.2.2.1]
  rfl
theorem splice_full (cur : Array Value) (l : Bs) (h : cur.size = l.length) : splice cur 0 l = (l.map bv).toArray := by
  unfold splice
  rw [List.drop_of_length_le (by simp [h])]
  simp
theorem bytes_cells_one (l : Bs) : ∀ v ∈ (l.map bv).toArray.toList, v.oneCell' = true := fun v hv => bytes_one l v (by simpa using hv)
/-- a block of just these bytes -/
def BkAt (w : World) (g T : Nat) (l : Bs) : Prop := w.heap[g]? = some (.cells (l.map bv).toArray T (0, 0))
theorem BkAt.sl {w : World} {g T n : Nat} {l : Bs} (h : BkAt w g T l) (hn : l.length = n) (hm : n ≤ maxLen) : Sl w (some ⟨g, 0, none⟩) n n l := by
  subst hn
  refine ⟨rfl, Nat.le_refl _, hm, .inr ⟨g, 0, rfl, fun i hi => ?_⟩⟩
  rw [cell_of h]
  simp [List.getElem?_eq_getElem hi, bv]
theorem BkAt.keep {S : List Nat} {w w' : World} {g T : Nat} {l : Bs} (h : BkAt w g T l) (hf : Fr S w w') (hg : g ∉ S) : BkAt w' g T l := hf.obj h hg
end Go.Sha
namespace Go.Proofs.Ythlknckmhjnkjaa
open Go.ChangeShapes Go.WideShapes Go.ChangeAt Go.RowKit Go.Sha

theorem zeroA224 : ((Try.prog.info? 32).bind (·.zero)).map (·.cells) = some (List.replicate 28 (Value.int .u8 0)).toArray := by kernel_rfl
theorem sizeA224 : (Try.prog.info? 32).map (·.size) = some 28 := by kernel_rfl
set_option maxRecDepth 100000 in
set_option maxHeartbeats 1000000 in
theorem libSum224_any (w : World) (ad : Option Addr) (nd cd : Nat) (data : Bs) (hS : Sl w ad nd cd data) :
    Calls Try.prog 33 #[.slice ad nd cd] w fun e w' => e = .returned (.agg ((xof 144 28 6 data 28).map bv).toArray) ∧ Fr [] w w' := by
  have HS := Lib.hid hS
  clear hS
  go_enter Try.func33, Try.ntmps33
  go_wp2_with (first | (with_reducible refine wpList_alloc_row rfl _ rfl _ zeroA224 ?_))
  obtain ⟨cz, hcz⟩ : ∃ cz : Array Value, cz = (List.replicate 28 (Value.int .u8 0)).toArray := ⟨_, rfl⟩
  have hcs : cz.size = 28 := by rw [hcz]; simp
  have HCS := Lib.hid hcs
  have f1 : Fr [] w ((w.alloc (.cells cz 32)).alloc (.cells cz 32)) := ((Fr.refl _ _).alloc _).alloc _
  have G0 : Hid (((w.alloc (.cells cz 32)).alloc (.cells cz 32)).heap[w.heap.size]? = some (.cells cz 32 (0, 0))) := ((Fr.refl [] _).alloc _).obj (Go.heap_alloc_new w _) (by simp)
  have G1 : Hid (((w.alloc (.cells cz 32)).alloc (.cells cz 32)).heap[w.heap.size + 1]? = some (.cells cz 32 (0, 0))) := by
    have h := Go.heap_alloc_new (w.alloc (.cells cz 32)) (.cells cz 32)
    rw [show (w.alloc (.cells cz 32)).heap.size = w.heap.size + 1 by simp] at h
    exact h
  have z1 : ((w.alloc (.cells cz 32)).alloc (.cells cz 32)).heap.size = w.heap.size + 1 + 1 := by simp
  change Calls _ _ _ ((w.alloc (.cells (List.replicate 28 (Value.int .u8 0)).toArray 32)).alloc (.cells (List.replicate 28 (Value.int .u8 0)).toArray 32)) _
  rw [← hcz]
  clear hcz hcs
  have Z1 := Lib.hid z1
  clear z1
  generalize (w.alloc (.cells cz 32)).alloc (.cells cz 32) = w1 at f1 G0 G1 Z1 ⊢
  refine (New224_any w1).mono ?_
  rintro e w2 ⟨rfl, D2, f2, z2⟩
  have hw1 := Z1.out
  rw [hw1] at D2 z2 ⊢
  clear hw1
  have S2 := Lib.hid ((HS.out.keep0 f1).keep0 f2)
  have G20 : Hid (w2.heap[w.heap.size]? = some (.cells cz 32 (0, 0))) := f2.obj G0.out (by simp)
  have G21 : Hid (w2.heap[w.heap.size + 1]? = some (.cells cz 32 (0, 0))) := f2.obj G1.out (by simp)
  have F2 := f1.trans f2
  have H2 := Lib.hid D2
  clear f1 f2 G0 G1 Z1 z2 D2
  go_wp2_with fail
  refine (Write_any _ _ _ _ _ _ _ _ data H2.out (newD_ok _ _ _ (by decide) (by decide)) rfl S2.out (fun x hx hn => by have := HS.out.lt hx hn; omega)).mono ?_
  rintro e w3 ⟨rfl, D3, f3⟩
  have hok := absorb_ok (newD_ok 144 28 6 (by decide) (by decide)) data
  have G30 : Hid (w3.heap[w.heap.size]? = some (.cells cz 32 (0, 0))) := f3.obj G20.out (by simp; omega)
  have G31 : Hid (w3.heap[w.heap.size + 1]? = some (.cells cz 32 (0, 0))) := f3.obj G21.out (by simp)
  have F3 := F2.via f3 (fun x hx => by simp at hx; omega)
  obtain ⟨d, hd⟩ : ∃ d, d = absorb (newD 144 28 6) data := ⟨_, rfl⟩
  have hash : hashD d = xof 144 28 6 data 28 := by rw [hd]; exact hashD_xof _ _ _ _ (by decide) (by decide)
  rw [← hd] at D3 hok
  have HK := Lib.hid hok
  have H3 := Lib.hid D3
  have HH := Lib.hid hash
  clear D3 hok f3 hd hash F2 G20 G21 S2 H2
  have hdo : d.out = 28 := HK.out.2.2.2.1
  have HDO := Lib.hid hdo
  clear hdo
  go_wp2_with fail
  refine (Sum_fit w3 _ _ d (w.heap.size + 1) 28 32 cz H3.out HK.out.1 HK.out.2.2.2.2 (by rw [HDO.out]; decide) G31.out (by rw [HDO.out]; decide) (by rw [HDO.out, HCS.out]; decide)).mono ?_
  rintro e w4 ⟨rfl, g4, f4⟩
  obtain ⟨Hs, hHs⟩ : ∃ Hs, Hs = xof 144 28 6 data 28 := ⟨_, rfl⟩
  have hHl : Hs.length = 28 := by rw [hHs, xof_length]
  rw [HH.out, ← hHs, splice_full cz Hs (by rw [HCS.out, hHl])] at g4
  have G41 := Lib.hid g4
  have G40 : Hid (w4.heap[w.heap.size]? = some (.cells cz 32 (0, 0))) := f4.obj G30.out (by simp)
  have F4 := F3.via f4 (fun x hx => by simp at hx; omega)
  have HHL := Lib.hid hHl
  have HHS := Lib.hid hHs
  clear g4 f4 F3 G30 G31 H3 HK HH hHs hHl
  go_wp2_with (refine wpList_load_row rfl _ _ rfl _ rfl _ _ _ _ G41.out Try.underlying32 rfl (by rw [List.size_toArray, List.length_map, HHL.out]; exact sizeA224) ?_; refine Hid.out ?_)
  show wpList _ _ _ _ _ _
  refine wpList_store_bits rfl _ _ _ rfl w.heap.size rfl 32 (Hs.map bv).toArray cz rfl G40.out (by rw [List.size_toArray, List.length_map, HHL.out, HCS.out]) (bytes_cells_one _) (by rw [List.size_toArray, List.length_map, HHL.out]; exact sizeA224) ?_
  have G5 := setRow_heap _ _ _ (Hs.map bv).toArray _ _ G40.out
  have F5 : Fr [] w (w4.setRow w.heap.size (Hs.map bv).toArray) := F4.setRow _ _ (.inl (by omega))
  generalize w4.setRow w.heap.size (Hs.map bv).toArray = w5 at G5 F5 ⊢
  have H5 := Lib.hid G5
  clear G5
  go_wp2_with fail
  refine bodyPost_ret (v := .agg (Hs.map bv).toArray) ?_ ?_ ?_
  · exact results_cell_row rfl _ _ w.heap.size _ _ _ _ rfl H5.out Try.underlying32 rfl (by rw [List.size_toArray, List.length_map, HHL.out]; exact sizeA224)
  · rfl
  exact ⟨by rw [HHS.out], F5⟩

set_option maxRecDepth 100000 in
set_option maxHeartbeats 1000000 in
theorem implSum224_any (w : World) (ad : Option Addr) (nd cd : Nat) (data : Bs) (hS : Sl w ad nd cd data) :
    Calls Try.prog 19 #[.slice ad nd cd] w fun e w' => ∃ g, e = .returned (.slice (some ⟨g, 0, none⟩) 28 28) ∧ w.heap.size ≤ g ∧ BkAt w' g 32 (xof 144 28 6 data 28) ∧ Fr [] w w' := by
  go_enter Try.func19, Try.ntmps19
  go_wp2_with fail
  refine (libSum224_any w ad nd cd data hS).mono ?_
  rintro e w1 ⟨rfl, f1⟩
  obtain ⟨Hs, hHs⟩ : ∃ Hs, Hs = xof 144 28 6 data 28 := ⟨_, rfl⟩
  have hHl : Hs.length = 28 := by rw [hHs, xof_length]
  rw [← hHs]
  have HHL := Lib.hid hHl
  have HHS := Lib.hid hHs
  clear hHs hHl
  have G1 := Lib.hid (Go.heap_alloc_new w1 (.cells (List.replicate 28 (Value.int .u8 0)).toArray 32))
  go_wp2_with (refine wpList_store_bits rfl _ _ _ rfl w1.heap.size rfl 32 (Hs.map bv).toArray _ rfl G1.out (by rw [List.size_toArray, List.length_map, HHL.out]; rfl) (bytes_cells_one _) (by rw [List.size_toArray, List.length_map, HHL.out]; exact sizeA224) ?_; refine Hid.out ?_)
  change wpList _ _ _ _ _ ((w1.alloc (.cells (List.replicate 28 (Value.int .u8 0)).toArray 32)).setRow w1.heap.size (Hs.map bv).toArray)
  have B2 : BkAt ((w1.alloc (.cells (List.replicate 28 (Value.int .u8 0)).toArray 32)).setRow w1.heap.size (Hs.map bv).toArray) w1.heap.size 32 Hs := setRow_heap _ _ _ _ _ _ G1.out
  have f2 : Fr [] w ((w1.alloc (.cells (List.replicate 28 (Value.int .u8 0)).toArray 32)).setRow w1.heap.size (Hs.map bv).toArray) := (f1.alloc _).setRow _ _ (.inl f1.size)
  generalize (w1.alloc (.cells (List.replicate 28 (Value.int .u8 0)).toArray 32)).setRow w1.heap.size (Hs.map bv).toArray = w2 at B2 f2 ⊢
  have H2 := Lib.hid B2
  clear B2
  go_wp2_with fail
  go_ret
  refine ⟨_, rfl, f1.size, ?_, f2⟩
  first | exact H2.out | (rw [← HHS.out]; exact H2.out)

theorem zeroA256 : ((Try.prog.info? 34).bind (·.zero)).map (·.cells) = some (List.replicate 32 (Value.int .u8 0)).toArray := by kernel_rfl
theorem sizeA256 : (Try.prog.info? 34).map (·.size) = some 32 := by kernel_rfl
set_option maxRecDepth 100000 in
set_option maxHeartbeats 1000000 in
theorem libSum256_any (w : World) (ad : Option Addr) (nd cd : Nat) (data : Bs) (hS : Sl w ad nd cd data) :
    Calls Try.prog 34 #[.slice ad nd cd] w fun e w' => e = .returned (.agg ((xof 136 32 6 data 32).map bv).toArray) ∧ Fr [] w w' := by
  have HS := Lib.hid hS
  clear hS
  go_enter Try.func34, Try.ntmps34
  go_wp2_with (first | (with_reducible refine wpList_alloc_row rfl _ rfl _ zeroA256 ?_))
  obtain ⟨cz, hcz⟩ : ∃ cz : Array Value, cz = (List.replicate 32 (Value.int .u8 0)).toArray := ⟨_, rfl⟩
  have hcs : cz.size = 32 := by rw [hcz]; simp
  have HCS := Lib.hid hcs
  have f1 : Fr [] w ((w.alloc (.cells cz 34)).alloc (.cells cz 34)) := ((Fr.refl _ _).alloc _).alloc _
  have G0 : Hid (((w.alloc (.cells cz 34)).alloc (.cells cz 34)).heap[w.heap.size]? = some (.cells cz 34 (0, 0))) := ((Fr.refl [] _).alloc _).obj (Go.heap_alloc_new w _) (by simp)
  have G1 : Hid (((w.alloc (.cells cz 34)).alloc (.cells cz 34)).heap[w.heap.size + 1]? = some (.cells cz 34 (0, 0))) := by
    have h := Go.heap_alloc_new (w.alloc (.cells cz 34)) (.cells cz 34)
    rw [show (w.alloc (.cells cz 34)).heap.size = w.heap.size + 1 by simp] at h
    exact h
  have z1 : ((w.alloc (.cells cz 34)).alloc (.cells cz 34)).heap.size = w.heap.size + 1 + 1 := by simp
  change Calls _ _ _ ((w.alloc (.cells (List.replicate 32 (Value.int .u8 0)).toArray 34)).alloc (.cells (List.replicate 32 (Value.int .u8 0)).toArray 34)) _
  rw [← hcz]
  clear hcz hcs
  have Z1 := Lib.hid z1
  clear z1
  generalize (w.alloc (.cells cz 34)).alloc (.cells cz 34) = w1 at f1 G0 G1 Z1 ⊢
  refine (New256_any w1).mono ?_
  rintro e w2 ⟨rfl, D2, f2, z2⟩
  have hw1 := Z1.out
  rw [hw1] at D2 z2 ⊢
  clear hw1
  have S2 := Lib.hid ((HS.out.keep0 f1).keep0 f2)
  have G20 : Hid (w2.heap[w.heap.size]? = some (.cells cz 34 (0, 0))) := f2.obj G0.out (by simp)
  have G21 : Hid (w2.heap[w.heap.size + 1]? = some (.cells cz 34 (0, 0))) := f2.obj G1.out (by simp)
  have F2 := f1.trans f2
  have H2 := Lib.hid D2
  clear f1 f2 G0 G1 Z1 z2 D2
  go_wp2_with fail
  refine (Write_any _ _ _ _ _ _ _ _ data H2.out (newD_ok _ _ _ (by decide) (by decide)) rfl S2.out (fun x hx hn => by have := HS.out.lt hx hn; omega)).mono ?_
  rintro e w3 ⟨rfl, D3, f3⟩
  have hok := absorb_ok (newD_ok 136 32 6 (by decide) (by decide)) data
  have G30 : Hid (w3.heap[w.heap.size]? = some (.cells cz 34 (0, 0))) := f3.obj G20.out (by simp; omega)
  have G31 : Hid (w3.heap[w.heap.size + 1]? = some (.cells cz 34 (0, 0))) := f3.obj G21.out (by simp)
  have F3 := F2.via f3 (fun x hx => by simp at hx; omega)
  obtain ⟨d, hd⟩ : ∃ d, d = absorb (newD 136 32 6) data := ⟨_, rfl⟩
  have hash : hashD d = xof 136 32 6 data 32 := by rw [hd]; exact hashD_xof _ _ _ _ (by decide) (by decide)
  rw [← hd] at D3 hok
  have HK := Lib.hid hok
  have H3 := Lib.hid D3
  have HH := Lib.hid hash
  clear D3 hok f3 hd hash F2 G20 G21 S2 H2
  have hdo : d.out = 32 := HK.out.2.2.2.1
  have HDO := Lib.hid hdo
  clear hdo
  go_wp2_with fail
  refine (Sum_fit w3 _ _ d (w.heap.size + 1) 32 34 cz H3.out HK.out.1 HK.out.2.2.2.2 (by rw [HDO.out]; decide) G31.out (by rw [HDO.out]; decide) (by rw [HDO.out, HCS.out]; decide)).mono ?_
  rintro e w4 ⟨rfl, g4, f4⟩
  obtain ⟨Hs, hHs⟩ : ∃ Hs, Hs = xof 136 32 6 data 32 := ⟨_, rfl⟩
  have hHl : Hs.length = 32 := by rw [hHs, xof_length]
  rw [HH.out, ← hHs, splice_full cz Hs (by rw [HCS.out, hHl])] at g4
  have G41 := Lib.hid g4
  have G40 : Hid (w4.heap[w.heap.size]? = some (.cells cz 34 (0, 0))) := f4.obj G30.out (by simp)
  have F4 := F3.via f4 (fun x hx => by simp at hx; omega)
  have HHL := Lib.hid hHl
  have HHS := Lib.hid hHs
  clear g4 f4 F3 G30 G31 H3 HK HH hHs hHl
  go_wp2_with (refine wpList_load_row rfl _ _ rfl _ rfl _ _ _ _ G41.out Try.underlying34 rfl (by rw [List.size_toArray, List.length_map, HHL.out]; exact sizeA256) ?_; refine Hid.out ?_)
  show wpList _ _ _ _ _ _
  refine wpList_store_bits rfl _ _ _ rfl w.heap.size rfl 34 (Hs.map bv).toArray cz rfl G40.out (by rw [List.size_toArray, List.length_map, HHL.out, HCS.out]) (bytes_cells_one _) (by rw [List.size_toArray, List.length_map, HHL.out]; exact sizeA256) ?_
  have G5 := setRow_heap _ _ _ (Hs.map bv).toArray _ _ G40.out
  have F5 : Fr [] w (w4.setRow w.heap.size (Hs.map bv).toArray) := F4.setRow _ _ (.inl (by omega))
  generalize w4.setRow w.heap.size (Hs.map bv).toArray = w5 at G5 F5 ⊢
  have H5 := Lib.hid G5
  clear G5
  go_wp2_with fail
  refine bodyPost_ret (v := .agg (Hs.map bv).toArray) ?_ ?_ ?_
  · exact results_cell_row rfl _ _ w.heap.size _ _ _ _ rfl H5.out Try.underlying34 rfl (by rw [List.size_toArray, List.length_map, HHL.out]; exact sizeA256)
  · rfl
  exact ⟨by rw [HHS.out], F5⟩

set_option maxRecDepth 100000 in
set_option maxHeartbeats 1000000 in
theorem implSum256_any (w : World) (ad : Option Addr) (nd cd : Nat) (data : Bs) (hS : Sl w ad nd cd data) :
    Calls Try.prog 24 #[.slice ad nd cd] w fun e w' => ∃ g, e = .returned (.slice (some ⟨g, 0, none⟩) 32 32) ∧ w.heap.size ≤ g ∧ BkAt w' g 34 (xof 136 32 6 data 32) ∧ Fr [] w w' := by
  go_enter Try.func24, Try.ntmps24
  go_wp2_with fail
  refine (libSum256_any w ad nd cd data hS).mono ?_
  rintro e w1 ⟨rfl, f1⟩
  obtain ⟨Hs, hHs⟩ : ∃ Hs, Hs = xof 136 32 6 data 32 := ⟨_, rfl⟩
  have hHl : Hs.length = 32 := by rw [hHs, xof_length]
  rw [← hHs]
  have HHL := Lib.hid hHl
  have HHS := Lib.hid hHs
  clear hHs hHl
  have G1 := Lib.hid (Go.heap_alloc_new w1 (.cells (List.replicate 32 (Value.int .u8 0)).toArray 34))
  go_wp2_with (refine wpList_store_bits rfl _ _ _ rfl w1.heap.size rfl 34 (Hs.map bv).toArray _ rfl G1.out (by rw [List.size_toArray, List.length_map, HHL.out]; rfl) (bytes_cells_one _) (by rw [List.size_toArray, List.length_map, HHL.out]; exact sizeA256) ?_; refine Hid.out ?_)
  change wpList _ _ _ _ _ ((w1.alloc (.cells (List.replicate 32 (Value.int .u8 0)).toArray 34)).setRow w1.heap.size (Hs.map bv).toArray)
  have B2 : BkAt ((w1.alloc (.cells (List.replicate 32 (Value.int .u8 0)).toArray 34)).setRow w1.heap.size (Hs.map bv).toArray) w1.heap.size 34 Hs := setRow_heap _ _ _ _ _ _ G1.out
  have f2 : Fr [] w ((w1.alloc (.cells (List.replicate 32 (Value.int .u8 0)).toArray 34)).setRow w1.heap.size (Hs.map bv).toArray) := (f1.alloc _).setRow _ _ (.inl f1.size)
  generalize (w1.alloc (.cells (List.replicate 32 (Value.int .u8 0)).toArray 34)).setRow w1.heap.size (Hs.map bv).toArray = w2 at B2 f2 ⊢
  have H2 := Lib.hid B2
  clear B2
  go_wp2_with fail
  go_ret
  refine ⟨_, rfl, f1.size, ?_, f2⟩
  first | exact H2.out | (rw [← HHS.out]; exact H2.out)

theorem zeroA384 : ((Try.prog.info? 36).bind (·.zero)).map (·.cells) = some (List.replicate 48 (Value.int .u8 0)).toArray := by kernel_rfl
theorem sizeA384 : (Try.prog.info? 36).map (·.size) = some 48 := by kernel_rfl
set_option maxRecDepth 100000 in
set_option maxHeartbeats 1000000 in
theorem libSum384_any (w : World) (ad : Option Addr) (nd cd : Nat) (data : Bs) (hS : Sl w ad nd cd data) :
    Calls Try.prog 35 #[.slice ad nd cd] w fun e w' => e = .returned (.agg ((xof 104 48 6 data 48).map bv).toArray) ∧ Fr [] w w' := by
  have HS := Lib.hid hS
  clear hS
  go_enter Try.func35, Try.ntmps35
  go_wp2_with (first | (with_reducible refine wpList_alloc_row rfl _ rfl _ zeroA384 ?_))
  obtain ⟨cz, hcz⟩ : ∃ cz : Array Value, cz = (List.replicate 48 (Value.int .u8 0)).toArray := ⟨_, rfl⟩
  have hcs : cz.size = 48 := by rw [hcz]; simp
  have HCS := Lib.hid hcs
  have f1 : Fr [] w ((w.alloc (.cells cz 36)).alloc (.cells cz 36)) := ((Fr.refl _ _).alloc _).alloc _
  have G0 : Hid (((w.alloc (.cells cz 36)).alloc (.cells cz 36)).heap[w.heap.size]? = some (.cells cz 36 (0, 0))) := ((Fr.refl [] _).alloc _).obj (Go.heap_alloc_new w _) (by simp)
  have G1 : Hid (((w.alloc (.cells cz 36)).alloc (.cells cz 36)).heap[w.heap.size + 1]? = some (.cells cz 36 (0, 0))) := by
    have h := Go.heap_alloc_new (w.alloc (.cells cz 36)) (.cells cz 36)
    rw [show (w.alloc (.cells cz 36)).heap.size = w.heap.size + 1 by simp] at h
    exact h
  have z1 : ((w.alloc (.cells cz 36)).alloc (.cells cz 36)).heap.size = w.heap.size + 1 + 1 := by simp
  change Calls _ _ _ ((w.alloc (.cells (List.replicate 48 (Value.int .u8 0)).toArray 36)).alloc (.cells (List.replicate 48 (Value.int .u8 0)).toArray 36)) _
  rw [← hcz]
  clear hcz hcs
  have Z1 := Lib.hid z1
  clear z1
  generalize (w.alloc (.cells cz 36)).alloc (.cells cz 36) = w1 at f1 G0 G1 Z1 ⊢
  refine (New384_any w1).mono ?_
  rintro e w2 ⟨rfl, D2, f2, z2⟩
  have hw1 := Z1.out
  rw [hw1] at D2 z2 ⊢
  clear hw1
  have S2 := Lib.hid ((HS.out.keep0 f1).keep0 f2)
  have G20 : Hid (w2.heap[w.heap.size]? = some (.cells cz 36 (0, 0))) := f2.obj G0.out (by simp)
  have G21 : Hid (w2.heap[w.heap.size + 1]? = some (.cells cz 36 (0, 0))) := f2.obj G1.out (by simp)
  have F2 := f1.trans f2
  have H2 := Lib.hid D2
  clear f1 f2 G0 G1 Z1 z2 D2
  go_wp2_with fail
  refine (Write_any _ _ _ _ _ _ _ _ data H2.out (newD_ok _ _ _ (by decide) (by decide)) rfl S2.out (fun x hx hn => by have := HS.out.lt hx hn; omega)).mono ?_
  rintro e w3 ⟨rfl, D3, f3⟩
  have hok := absorb_ok (newD_ok 104 48 6 (by decide) (by decide)) data
  have G30 : Hid (w3.heap[w.heap.size]? = some (.cells cz 36 (0, 0))) := f3.obj G20.out (by simp; omega)
  have G31 : Hid (w3.heap[w.heap.size + 1]? = some (.cells cz 36 (0, 0))) := f3.obj G21.out (by simp)
  have F3 := F2.via f3 (fun x hx => by simp at hx; omega)
  obtain ⟨d, hd⟩ : ∃ d, d = absorb (newD 104 48 6) data := ⟨_, rfl⟩
  have hash : hashD d = xof 104 48 6 data 48 := by rw [hd]; exact hashD_xof _ _ _ _ (by decide) (by decide)
  rw [← hd] at D3 hok
  have HK := Lib.hid hok
  have H3 := Lib.hid D3
  have HH := Lib.hid hash
  clear D3 hok f3 hd hash F2 G20 G21 S2 H2
  have hdo : d.out = 48 := HK.out.2.2.2.1
  have HDO := Lib.hid hdo
  clear hdo
  go_wp2_with fail
  refine (Sum_fit w3 _ _ d (w.heap.size + 1) 48 36 cz H3.out HK.out.1 HK.out.2.2.2.2 (by rw [HDO.out]; decide) G31.out (by rw [HDO.out]; decide) (by rw [HDO.out, HCS.out]; decide)).mono ?_
  rintro e w4 ⟨rfl, g4, f4⟩
  obtain ⟨Hs, hHs⟩ : ∃ Hs, Hs = xof 104 48 6 data 48 := ⟨_, rfl⟩
  have hHl : Hs.length = 48 := by rw [hHs, xof_length]
  rw [HH.out, ← hHs, splice_full cz Hs (by rw [HCS.out, hHl])] at g4
  have G41 := Lib.hid g4
  have G40 : Hid (w4.heap[w.heap.size]? = some (.cells cz 36 (0, 0))) := f4.obj G30.out (by simp)
  have F4 := F3.via f4 (fun x hx => by simp at hx; omega)
  have HHL := Lib.hid hHl
  have HHS := Lib.hid hHs
  clear g4 f4 F3 G30 G31 H3 HK HH hHs hHl
  go_wp2_with (refine wpList_load_row rfl _ _ rfl _ rfl _ _ _ _ G41.out Try.underlying36 rfl (by rw [List.size_toArray, List.length_map, HHL.out]; exact sizeA384) ?_; refine Hid.out ?_)
  show wpList _ _ _ _ _ _
  refine wpList_store_bits rfl _ _ _ rfl w.heap.size rfl 36 (Hs.map bv).toArray cz rfl G40.out (by rw [List.size_toArray, List.length_map, HHL.out, HCS.out]) (bytes_cells_one _) (by rw [List.size_toArray, List.length_map, HHL.out]; exact sizeA384) ?_
  have G5 := setRow_heap _ _ _ (Hs.map bv).toArray _ _ G40.out
  have F5 : Fr [] w (w4.setRow w.heap.size (Hs.map bv).toArray) := F4.setRow _ _ (.inl (by omega))
  generalize w4.setRow w.heap.size (Hs.map bv).toArray = w5 at G5 F5 ⊢
  have H5 := Lib.hid G5
  clear G5
  go_wp2_with fail
  refine bodyPost_ret (v := .agg (Hs.map bv).toArray) ?_ ?_ ?_
  · exact results_cell_row rfl _ _ w.heap.size _ _ _ _ rfl H5.out Try.underlying36 rfl (by rw [List.size_toArray, List.length_map, HHL.out]; exact sizeA384)
  · rfl
  exact ⟨by rw [HHS.out], F5⟩

set_option maxRecDepth 100000 in
set_option maxHeartbeats 1000000 in
theorem implSum384_any (w : World) (ad : Option Addr) (nd cd : Nat) (data : Bs) (hS : Sl w ad nd cd data) :
    Calls Try.prog 26 #[.slice ad nd cd] w fun e w' => ∃ g, e = .returned (.slice (some ⟨g, 0, none⟩) 48 48) ∧ w.heap.size ≤ g ∧ BkAt w' g 36 (xof 104 48 6 data 48) ∧ Fr [] w w' := by
  go_enter Try.func26, Try.ntmps26
  go_wp2_with fail
  refine (libSum384_any w ad nd cd data hS).mono ?_
  rintro e w1 ⟨rfl, f1⟩
  obtain ⟨Hs, hHs⟩ : ∃ Hs, Hs = xof 104 48 6 data 48 := ⟨_, rfl⟩
  have hHl : Hs.length = 48 := by rw [hHs, xof_length]
  rw [← hHs]
  have HHL := Lib.hid hHl
  have HHS := Lib.hid hHs
  clear hHs hHl
  have G1 := Lib.hid (Go.heap_alloc_new w1 (.cells (List.replicate 48 (Value.int .u8 0)).toArray 36))
  go_wp2_with (refine wpList_store_bits rfl _ _ _ rfl w1.heap.size rfl 36 (Hs.map bv).toArray _ rfl G1.out (by rw [List.size_toArray, List.length_map, HHL.out]; rfl) (bytes_cells_one _) (by rw [List.size_toArray, List.length_map, HHL.out]; exact sizeA384) ?_; refine Hid.out ?_)
  change wpList _ _ _ _ _ ((w1.alloc (.cells (List.replicate 48 (Value.int .u8 0)).toArray 36)).setRow w1.heap.size (Hs.map bv).toArray)
  have B2 : BkAt ((w1.alloc (.cells (List.replicate 48 (Value.int .u8 0)).toArray 36)).setRow w1.heap.size (Hs.map bv).toArray) w1.heap.size 36 Hs := setRow_heap _ _ _ _ _ _ G1.out
  have f2 : Fr [] w ((w1.alloc (.cells (List.replicate 48 (Value.int .u8 0)).toArray 36)).setRow w1.heap.size (Hs.map bv).toArray) := (f1.alloc _).setRow _ _ (.inl f1.size)
  generalize (w1.alloc (.cells (List.replicate 48 (Value.int .u8 0)).toArray 36)).setRow w1.heap.size (Hs.map bv).toArray = w2 at B2 f2 ⊢
  have H2 := Lib.hid B2
  clear B2
  go_wp2_with fail
  go_ret
  refine ⟨_, rfl, f1.size, ?_, f2⟩
  first | exact H2.out | (rw [← HHS.out]; exact H2.out)

theorem zeroA512 : ((Try.prog.info? 38).bind (·.zero)).map (·.cells) = some (List.replicate 64 (Value.int .u8 0)).toArray := by kernel_rfl
theorem sizeA512 : (Try.prog.info? 38).map (·.size) = some 64 := by kernel_rfl
set_option maxRecDepth 100000 in
set_option maxHeartbeats 1000000 in
theorem libSum512_any (w : World) (ad : Option Addr) (nd cd : Nat) (data : Bs) (hS : Sl w ad nd cd data) :
    Calls Try.prog 36 #[.slice ad nd cd] w fun e w' => e = .returned (.agg ((xof 72 64 6 data 64).map bv).toArray) ∧ Fr [] w w' := by
  have HS := Lib.hid hS
  clear hS
  go_enter Try.func36, Try.ntmps36
  go_wp2_with (first | (with_reducible refine wpList_alloc_row rfl _ rfl _ zeroA512 ?_))
  obtain ⟨cz, hcz⟩ : ∃ cz : Array Value, cz = (List.replicate 64 (Value.int .u8 0)).toArray := ⟨_, rfl⟩
  have hcs : cz.size = 64 := by rw [hcz]; simp
  have HCS := Lib.hid hcs
  have f1 : Fr [] w ((w.alloc (.cells cz 38)).alloc (.cells cz 38)) := ((Fr.refl _ _).alloc _).alloc _
  have G0 : Hid (((w.alloc (.cells cz 38)).alloc (.cells cz 38)).heap[w.heap.size]? = some (.cells cz 38 (0, 0))) := ((Fr.refl [] _).alloc _).obj (Go.heap_alloc_new w _) (by simp)
  have G1 : Hid (((w.alloc (.cells cz 38)).alloc (.cells cz 38)).heap[w.heap.size + 1]? = some (.cells cz 38 (0, 0))) := by
    have h := Go.heap_alloc_new (w.alloc (.cells cz 38)) (.cells cz 38)
    rw [show (w.alloc (.cells cz 38)).heap.size = w.heap.size + 1 by simp] at h
    exact h
  have z1 : ((w.alloc (.cells cz 38)).alloc (.cells cz 38)).heap.size = w.heap.size + 1 + 1 := by simp
  change Calls _ _ _ ((w.alloc (.cells (List.replicate 64 (Value.int .u8 0)).toArray 38)).alloc (.cells (List.replicate 64 (Value.int .u8 0)).toArray 38)) _
  rw [← hcz]
  clear hcz hcs
  have Z1 := Lib.hid z1
  clear z1
  generalize (w.alloc (.cells cz 38)).alloc (.cells cz 38) = w1 at f1 G0 G1 Z1 ⊢
  refine (New512_any w1).mono ?_
  rintro e w2 ⟨rfl, D2, f2, z2⟩
  have hw1 := Z1.out
  rw [hw1] at D2 z2 ⊢
  clear hw1
  have S2 := Lib.hid ((HS.out.keep0 f1).keep0 f2)
  have G20 : Hid (w2.heap[w.heap.size]? = some (.cells cz 38 (0, 0))) := f2.obj G0.out (by simp)
  have G21 : Hid (w2.heap[w.heap.size + 1]? = some (.cells cz 38 (0, 0))) := f2.obj G1.out (by simp)
  have F2 := f1.trans f2
  have H2 := Lib.hid D2
  clear f1 f2 G0 G1 Z1 z2 D2
  go_wp2_with fail
  refine (Write_any _ _ _ _ _ _ _ _ data H2.out (newD_ok _ _ _ (by decide) (by decide)) rfl S2.out (fun x hx hn => by have := HS.out.lt hx hn; omega)).mono ?_
  rintro e w3 ⟨rfl, D3, f3⟩
  have hok := absorb_ok (newD_ok 72 64 6 (by decide) (by decide)) data
  have G30 : Hid (w3.heap[w.heap.size]? = some (.cells cz 38 (0, 0))) := f3.obj G20.out (by simp; omega)
  have G31 : Hid (w3.heap[w.heap.size + 1]? = some (.cells cz 38 (0, 0))) := f3.obj G21.out (by simp)
  have F3 := F2.via f3 (fun x hx => by simp at hx; omega)
  obtain ⟨d, hd⟩ : ∃ d, d = absorb (newD 72 64 6) data := ⟨_, rfl⟩
  have hash : hashD d = xof 72 64 6 data 64 := by rw [hd]; exact hashD_xof _ _ _ _ (by decide) (by decide)
  rw [← hd] at D3 hok
  have HK := Lib.hid hok
  have H3 := Lib.hid D3
  have HH := Lib.hid hash
  clear D3 hok f3 hd hash F2 G20 G21 S2 H2
  have hdo : d.out = 64 := HK.out.2.2.2.1
  have HDO := Lib.hid hdo
  clear hdo
  go_wp2_with fail
  refine (Sum_fit w3 _ _ d (w.heap.size + 1) 64 38 cz H3.out HK.out.1 HK.out.2.2.2.2 (by rw [HDO.out]; decide) G31.out (by rw [HDO.out]; decide) (by rw [HDO.out, HCS.out]; decide)).mono ?_
  rintro e w4 ⟨rfl, g4, f4⟩
  obtain ⟨Hs, hHs⟩ : ∃ Hs, Hs = xof 72 64 6 data 64 := ⟨_, rfl⟩
  have hHl : Hs.length = 64 := by rw [hHs, xof_length]
  rw [HH.out, ← hHs, splice_full cz Hs (by rw [HCS.out, hHl])] at g4
  have G41 := Lib.hid g4
  have G40 : Hid (w4.heap[w.heap.size]? = some (.cells cz 38 (0, 0))) := f4.obj G30.out (by simp)
  have F4 := F3.via f4 (fun x hx => by simp at hx; omega)
  have HHL := Lib.hid hHl
  have HHS := Lib.hid hHs
  clear g4 f4 F3 G30 G31 H3 HK HH hHs hHl
  go_wp2_with (refine wpList_load_row rfl _ _ rfl _ rfl _ _ _ _ G41.out Try.underlying38 rfl (by rw [List.size_toArray, List.length_map, HHL.out]; exact sizeA512) ?_; refine Hid.out ?_)
  show wpList _ _ _ _ _ _
  refine wpList_store_bits rfl _ _ _ rfl w.heap.size rfl 38 (Hs.map bv).toArray cz rfl G40.out (by rw [List.size_toArray, List.length_map, HHL.out, HCS.out]) (bytes_cells_one _) (by rw [List.size_toArray, List.length_map, HHL.out]; exact sizeA512) ?_
  have G5 := setRow_heap _ _ _ (Hs.map bv).toArray _ _ G40.out
  have F5 : Fr [] w (w4.setRow w.heap.size (Hs.map bv).toArray) := F4.setRow _ _ (.inl (by omega))
  generalize w4.setRow w.heap.size (Hs.map bv).toArray = w5 at G5 F5 ⊢
  have H5 := Lib.hid G5
  clear G5
  go_wp2_with fail
  refine bodyPost_ret (v := .agg (Hs.map bv).toArray) ?_ ?_ ?_
  · exact results_cell_row rfl _ _ w.heap.size _ _ _ _ rfl H5.out Try.underlying38 rfl (by rw [List.size_toArray, List.length_map, HHL.out]; exact sizeA512)
  · rfl
  exact ⟨by rw [HHS.out], F5⟩

set_option maxRecDepth 100000 in
set_option maxHeartbeats 1000000 in
theorem implSum512_any (w : World) (ad : Option Addr) (nd cd : Nat) (data : Bs) (hS : Sl w ad nd cd data) :
    Calls Try.prog 28 #[.slice ad nd cd] w fun e w' => ∃ g, e = .returned (.slice (some ⟨g, 0, none⟩) 64 64) ∧ w.heap.size ≤ g ∧ BkAt w' g 38 (xof 72 64 6 data 64) ∧ Fr [] w w' := by
  go_enter Try.func28, Try.ntmps28
  go_wp2_with fail
  refine (libSum512_any w ad nd cd data hS).mono ?_
  rintro e w1 ⟨rfl, f1⟩
  obtain ⟨Hs, hHs⟩ : ∃ Hs, Hs = xof 72 64 6 data 64 := ⟨_, rfl⟩
  have hHl : Hs.length = 64 := by rw [hHs, xof_length]
  rw [← hHs]
  have HHL := Lib.hid hHl
  have HHS := Lib.hid hHs
  clear hHs hHl
  have G1 := Lib.hid (Go.heap_alloc_new w1 (.cells (List.replicate 64 (Value.int .u8 0)).toArray 38))
  go_wp2_with (refine wpList_store_bits rfl _ _ _ rfl w1.heap.size rfl 38 (Hs.map bv).toArray _ rfl G1.out (by rw [List.size_toArray, List.length_map, HHL.out]; rfl) (bytes_cells_one _) (by rw [List.size_toArray, List.length_map, HHL.out]; exact sizeA512) ?_; refine Hid.out ?_)
  change wpList _ _ _ _ _ ((w1.alloc (.cells (List.replicate 64 (Value.int .u8 0)).toArray 38)).setRow w1.heap.size (Hs.map bv).toArray)
  have B2 : BkAt ((w1.alloc (.cells (List.replicate 64 (Value.int .u8 0)).toArray 38)).setRow w1.heap.size (Hs.map bv).toArray) w1.heap.size 38 Hs := setRow_heap _ _ _ _ _ _ G1.out
  have f2 : Fr [] w ((w1.alloc (.cells (List.replicate 64 (Value.int .u8 0)).toArray 38)).setRow w1.heap.size (Hs.map bv).toArray) := (f1.alloc _).setRow _ _ (.inl f1.size)
  generalize (w1.alloc (.cells (List.replicate 64 (Value.int .u8 0)).toArray 38)).setRow w1.heap.size (Hs.map bv).toArray = w2 at B2 f2 ⊢
  have H2 := Lib.hid B2
  clear B2
  go_wp2_with fail
  go_ret
  refine ⟨_, rfl, f1.size, ?_, f2⟩
  first | exact H2.out | (rw [← HHS.out]; exact H2.out)

end Go.Proofs.Ythlknckmhjnkjaa
