/- Contracts and lemmas, merged: Xf, Xr, Xg. Their conditions stand in each. -/
import Derived.Test.YtkijnpjefccepaaGA
import Derived.Test.YtkijnpjefccepaaGB
import Derived.Test.YtkijnpjefccepaaGC
import Derived.Test.YtkijnpjefccepaaGG
import Derived.Test.YtkijnpjefccepaaGH
import Derived.Test.YtkijnpjefccepaaGX
import Derived.Test.YtkijnpjefccepaaGY
import Derived.IntWalk
import Derived.Laws.OwnMore
section
namespace Go.Sha
open Go.RowKit
/-- a pointer to a new block that holds the sponge d and a slice behind it -/
def RetPX (T : Nat) (v : Value) (d : Dg) (w : World) (e : Ending) (w' : World) : Prop := ∃ g, e = .returned (.pointer (some ⟨g, 0, none⟩)) ∧ w.heap.size ≤ g ∧ g < w'.heap.size ∧ DgAt w' g T [v] d ∧ Fr [] w w'
theorem Dg.cells1_length (d : Dg) (v : Value) (h : d.a.length = 200) : (d.cells ++ [v]).length = 206 := by rw [List.length_append, Dg.cells_length d h]; rfl
theorem Dg.cells1_one (d : Dg) (a : Option Addr) (n c : Nat) : ∀ v ∈ d.cells ++ [Value.slice a n c], v.oneCell' = true := fun v hv => by
  rcases List.mem_append.1 hv with hv | hv
  · exact d.cells_one v hv
  · simp only [List.mem_cons, List.not_mem_nil, or_false] at hv
    subst hv
    rfl
end Go.Sha
namespace Go.Proofs.Ytkijnpjefccepaa
open Go.ChangeShapes Go.WideShapes Go.ChangeAt Go.RowKit Go.Sha
theorem sizeSX : (Try.prog.info? 72).map (·.size) = some 206 := by kernel_rfl
theorem sizeFX : (Try.prog.info? 70).map (·.size) = some 206 := by kernel_rfl

set_option maxRecDepth 100000 in
theorem libNewSHAKE128_any (w : World) : Calls Try.prog 37 #[] w (RetPX 72 (.slice none 0 0) (newD 168 32 31) w) := by
  have hb : Try.prog.built 72 [(0, .agg ((newD 168 32 31).cells ++ [Value.slice none 0 0]).toArray)] = some ((newD 168 32 31).cells ++ [Value.slice none 0 0]).toArray := by kernel_rfl
  go_enter Try.func37, Try.ntmps37
  go_wp2_with fail
  refine (NewShake128_any w).mono ?_
  rintro e w1 ⟨rfl, D1, f1, z1⟩
  have H1 : Hid (w1.heap[w.heap.size]? = some (.cells ((newD 168 32 31).cells ++ [Value.slice none 0 0]).toArray 70 (0, 0))) := D1.2
  obtain ⟨C, hC⟩ : ∃ C, C = ((newD 168 32 31).cells ++ [Value.slice none 0 0]).toArray := ⟨_, rfl⟩
  have hs : Hid (C.size = 206) := by show _ = _; rw [hC, List.size_toArray, Dg.cells1_length _ _ List.length_replicate]
  rw [← hC] at H1 hb
  have HC := Lib.hid hC
  have HBB := Lib.hid hb
  clear D1 hC hb z1
  go_wp2_with (refine wpList_load_row rfl _ _ rfl w.heap.size rfl _ C (0, 0) _ H1.out Try.underlying70 rfl (by rw [hs.out]; exact sizeFX) ?_; refine Hid.out ?_)
  show wpList _ _ _ _ _ _
  refine wpList_build1 rfl 72 0 _ (.agg C) rfl rfl C HBB.out ?_
  refine wpList_box_row rfl _ _ rfl C rfl ?_
  have D2 : DgAt (w1.alloc (.cells C 72)) w1.heap.size 72 [Value.slice none 0 0] (newD 168 32 31) := ⟨List.length_replicate, by rw [← HC.out]; exact Go.heap_alloc_new w1 _⟩
  have f2 : Fr [] w (w1.alloc (.cells C 72)) := f1.alloc _
  have z2 : w1.heap.size < (w1.alloc (.cells C 72)).heap.size := by simp
  generalize w1.alloc (.cells C 72) = w2 at D2 f2 z2 ⊢
  have H2 := Lib.hid D2
  clear D2
  go_wp2_with fail
  go_ret
  exact ⟨_, rfl, f1.size, z2, H2.out, f2⟩

set_option maxRecDepth 100000 in
theorem libNewSHAKE256_any (w : World) : Calls Try.prog 38 #[] w (RetPX 72 (.slice none 0 0) (newD 136 64 31) w) := by
  have hb : Try.prog.built 72 [(0, .agg ((newD 136 64 31).cells ++ [Value.slice none 0 0]).toArray)] = some ((newD 136 64 31).cells ++ [Value.slice none 0 0]).toArray := by kernel_rfl
  go_enter Try.func38, Try.ntmps38
  go_wp2_with fail
  refine (NewShake256_any w).mono ?_
  rintro e w1 ⟨rfl, D1, f1, z1⟩
  have H1 : Hid (w1.heap[w.heap.size]? = some (.cells ((newD 136 64 31).cells ++ [Value.slice none 0 0]).toArray 70 (0, 0))) := D1.2
  obtain ⟨C, hC⟩ : ∃ C, C = ((newD 136 64 31).cells ++ [Value.slice none 0 0]).toArray := ⟨_, rfl⟩
  have hs : Hid (C.size = 206) := by show _ = _; rw [hC, List.size_toArray, Dg.cells1_length _ _ List.length_replicate]
  rw [← hC] at H1 hb
  have HC := Lib.hid hC
  have HBB := Lib.hid hb
  clear D1 hC hb z1
  go_wp2_with (refine wpList_load_row rfl _ _ rfl w.heap.size rfl _ C (0, 0) _ H1.out Try.underlying70 rfl (by rw [hs.out]; exact sizeFX) ?_; refine Hid.out ?_)
  show wpList _ _ _ _ _ _
  refine wpList_build1 rfl 72 0 _ (.agg C) rfl rfl C HBB.out ?_
  refine wpList_box_row rfl _ _ rfl C rfl ?_
  have D2 : DgAt (w1.alloc (.cells C 72)) w1.heap.size 72 [Value.slice none 0 0] (newD 136 64 31) := ⟨List.length_replicate, by rw [← HC.out]; exact Go.heap_alloc_new w1 _⟩
  have f2 : Fr [] w (w1.alloc (.cells C 72)) := f1.alloc _
  have z2 : w1.heap.size < (w1.alloc (.cells C 72)).heap.size := by simp
  generalize w1.alloc (.cells C 72) = w2 at D2 f2 z2 ⊢
  have H2 := Lib.hid D2
  clear D2
  go_wp2_with fail
  go_ret
  exact ⟨_, rfl, f1.size, z2, H2.out, f2⟩

theorem xdSize_any (w : World) (b T : Nat) (ext : List Value) (d : Dg) (h : DgAt w b T ext d) : Calls Try.prog 90 #[.pointer (some ⟨b, 0, none⟩)] w fun e w' => e = .returned (.int .i64 (d.out : Int)) ∧ w' = w := by
  have q := h.cout
  go_enter Try.func90, Try.ntmps90
  go_wp2_with fail
  go_ret
  exact ⟨rfl, rfl⟩
theorem fSize_any (w : World) (b T : Nat) (ext : List Value) (d : Dg) (h : DgAt w b T ext d) : Calls Try.prog 73 #[.pointer (some ⟨b, 0, none⟩)] w fun e w' => e = .returned (.int .i64 (d.out : Int)) ∧ w' = w := by
  go_enter Try.func73, Try.ntmps73
  go_wp2_with fail
  refine (xdSize_any w b T ext d h).mono ?_
  rintro e w' ⟨rfl, rfl⟩
  go_wp2_with fail
  go_ret
  exact ⟨rfl, rfl⟩

theorem xdBlockSize_any (w : World) (b T : Nat) (ext : List Value) (d : Dg) (h : DgAt w b T ext d) : Calls Try.prog 78 #[.pointer (some ⟨b, 0, none⟩)] w fun e w' => e = .returned (.int .i64 (d.rate : Int)) ∧ w' = w := by
  have q := h.crate
  go_enter Try.func78, Try.ntmps78
  go_wp2_with fail
  go_ret
  exact ⟨rfl, rfl⟩
theorem fBlockSize_any (w : World) (b T : Nat) (ext : List Value) (d : Dg) (h : DgAt w b T ext d) : Calls Try.prog 64 #[.pointer (some ⟨b, 0, none⟩)] w fun e w' => e = .returned (.int .i64 (d.rate : Int)) ∧ w' = w := by
  go_enter Try.func64, Try.ntmps64
  go_wp2_with fail
  refine (xdBlockSize_any w b T ext d h).mono ?_
  rintro e w' ⟨rfl, rfl⟩
  go_wp2_with fail
  go_ret
  exact ⟨rfl, rfl⟩

/-- what a method of an extendable output function leaves -/
def RetS (v : Value) (b : Nat) (p : XP) (S : List Nat) (x : XS) (w : World) (e : Ending) (w' : World) : Prop := e = .returned v ∧ XsAt w' b 72 p S x ∧ Fr [b] w w'
/-- behind init: no zero value any more -/
def RetI1 (b : Nat) (p : XP) (S : List Nat) (x : XS) (w : World) (e : Ending) (w' : World) : Prop := e = .returned (.tuple #[]) ∧ (∃ ai ci, Sl w' ai p.ini.length ci p.ini ∧ (∀ y, ai = some y → p.ini.length ≠ 0 → y.block ∉ S ∧ y.off = 0) ∧ DgAt w' b 72 [.slice ai p.ini.length ci] (xD p x)) ∧ Fr [b] w w'
set_option maxRecDepth 100000 in
theorem xinit_any (w : World) (b : Nat) (p : XP) (S : List Nat) (x : XS) (hp : p.Ok) (_hbS : b ∈ S) (h : XsAt w b 72 p S x) :
    Calls Try.prog 61 #[.pointer (some ⟨b, 0, none⟩)] w (RetI1 b p S x w) := by
  obtain ⟨ai, ci, h1, h2, h | ⟨rfl, rfl, h⟩⟩ := h
  · have ha := hp.any x
    have ho : ((xD p x).out : Int) ≠ 0 := by rw [ha.2.2.2.1]; have := hp.opos; omega
    have HH := Lib.hid (And.intro h1 h2)
    clear h1 h2 ha
    obtain ⟨d, hd⟩ : ∃ d, d = xD p x := ⟨_, rfl⟩
    rw [← hd] at h ho
    have hb : ((d.out : Int) == 0) = false := by rw [beq_eq_false_iff_ne]; exact ho
    have HD := Lib.hid hd
    clear ho hd
    go_enter Try.func61, Try.ntmps61
    go_wp2_with fail
    refine (fSize_any w b 72 _ d h).mono ?_
    rintro e w' ⟨rfl, rfl⟩
    go_wp2_with fail
    go_end0
    exact ⟨rfl, ⟨ai, ci, HH.out.1, HH.out.2, by rw [← HD.out]; exact h⟩, Fr.refl _ _⟩
  · have hn : ai = none ∨ True := .inr trivial
    go_enter Try.func61, Try.ntmps61
    go_wp2_with fail
    refine (fSize_any w b 72 _ _ h).mono ?_
    rintro e w' ⟨rfl, rfl⟩
    go_wp2_with fail
    refine (libNewSHAKE256_any w').mono ?_
    rintro e w1 ⟨g, rfl, hg, hgw, D1, f1⟩
    have hbw := h.lt
    have H1 : Hid (w1.heap[g]? = some (.cells ((newD 136 64 31).cells ++ [Value.slice none 0 0]).toArray 72 (0, 0))) := D1.2
    have H0 : Hid (w1.heap[b]? = some (.cells ((newD 0 0 0).cells ++ [Value.slice ai 0 ci]).toArray 72 (0, 0))) := (h.keep f1 (by simp)).2
    obtain ⟨C, hC⟩ : ∃ C, C = ((newD 136 64 31).cells ++ [Value.slice none 0 0]).toArray := ⟨_, rfl⟩
    obtain ⟨Z, hZ⟩ : ∃ Z, Z = ((newD 0 0 0).cells ++ [Value.slice ai 0 ci]).toArray := ⟨_, rfl⟩
    have hs : Hid (C.size = 206 ∧ Z.size = 206 ∧ ∀ v ∈ C.toList, v.oneCell' = true) := by
      rw [hC, hZ]
      exact ⟨by rw [List.size_toArray, Dg.cells1_length _ _ List.length_replicate], by rw [List.size_toArray, Dg.cells1_length _ _ List.length_replicate], fun v hv => (newD 136 64 31).cells1_one none 0 0 v (by simpa using hv)⟩
    rw [← hC] at H1
    rw [← hZ] at H0
    have HC := Lib.hid hC
    clear D1 hC hZ
    go_wp2_with (refine wpList_load_row rfl _ _ rfl g rfl _ C (0, 0) _ H1.out Try.underlying72 rfl (by rw [hs.out.1]; exact sizeSX) ?_; refine Hid.out ?_)
    show wpList _ _ _ _ _ _
    go_wp2_with (refine wpList_store_bits rfl _ _ _ rfl b rfl 72 C Z rfl H0.out (by rw [hs.out.1, hs.out.2.1]) hs.out.2.2 (by rw [hs.out.1]; exact sizeSX) ?_; refine Hid.out ?_)
    show wpList _ _ _ _ _ _
    have D2 : DgAt (w1.setRow b C) b 72 [Value.slice none 0 0] (newD 136 64 31) := ⟨List.length_replicate, by rw [← HC.out]; exact setRow_heap _ _ _ _ _ _ H0.out⟩
    have f2 : Fr [b] w' (w1.setRow b C) := (f1.mono (by simp)).setRow _ _ (.inr (by simp))
    generalize w1.setRow b C = w2 at D2 f2 ⊢
    have H2 := Lib.hid D2
    clear D2
    go_wp2_with fail
    go_end0
    exact ⟨rfl, ⟨none, 0, ⟨rfl, Nat.le_refl _, by simp [maxLen], .inl rfl⟩, (fun y hy => by cases hy), H2.out⟩, f2⟩

theorem shkWrite_any (w : World) (b : Nat) (p : XP) (S : List Nat) (l : Bs) (hp : p.Ok) (hbS : b ∈ S) (h : XsAt w b 72 p S ⟨l, none⟩) (ad : Option Addr) (nd cd : Nat) (data : Bs) (hS : Sl w ad nd cd data) (hne : ∀ x, ad = some x → nd ≠ 0 → x.block ≠ b) :
    Calls Try.prog 60 #[.pointer (some ⟨b, 0, none⟩), .slice ad nd cd] w (RetS (.tuple #[.int .i64 nd, .nilIface]) b p S ⟨l ++ data, none⟩ w) := by
  go_enter Try.func60, Try.ntmps60
  go_wp2_with fail
  refine (xinit_any w b p S _ hp hbS h).mono ?_
  rintro e w1 ⟨rfl, ⟨ai, ci, h1, h2, D1⟩, f1⟩
  have S1 := Lib.hid (hS.keep f1 (fun x hx hn => by simp; exact hne x hx hn))
  have hok := Lib.hid (hp.abs l)
  have H1 := Lib.hid (And.intro h1 h2)
  clear h1 h2
  rw [xD_none] at D1
  go_wp2_with fail
  refine (ShakeWrite_any w1 b 72 _ _ ad nd cd data D1 hok.out.1 hok.out.2.2.2.2 S1.out hne).mono ?_
  rintro e w2 ⟨rfl, D2, f2⟩
  rw [← absorb_append] at D2
  have HD2 := Lib.hid D2
  clear D2
  go_wp2_with fail
  go_ret2
  exact ⟨rfl, ⟨ai, ci, H1.out.1.keep f2 (fun y hy hn => by simp; intro e; exact (H1.out.2 y hy hn).1 (e ▸ hbS)), H1.out.2, .inl HD2.out⟩, f1.trans f2⟩

theorem shkBlockSize_any (w : World) (b : Nat) (p : XP) (S : List Nat) (x : XS) (hp : p.Ok) (hbS : b ∈ S) (h : XsAt w b 72 p S x) :
    Calls Try.prog 45 #[.pointer (some ⟨b, 0, none⟩)] w (RetS (.int .i64 (p.r : Int)) b p S x w) := by
  go_enter Try.func45, Try.ntmps45
  go_wp2_with fail
  refine (xinit_any w b p S _ hp hbS h).mono ?_
  rintro e w1 ⟨rfl, ⟨ai, ci, h1, h2, D1⟩, f1⟩
  have hok := Lib.hid (hp.any x)
  have H1 := Lib.hid (And.intro h1 h2)
  have HD := Lib.hid D1
  clear h1 h2
  go_wp2_with fail
  refine (fBlockSize_any w1 b 72 _ _ D1).mono ?_
  rintro e w2 ⟨rfl, rfl⟩
  rw [hok.out.2.1]
  clear D1
  go_wp2_with fail
  go_ret
  exact ⟨rfl, ⟨ai, ci, H1.out.1, H1.out.2, .inl HD.out⟩, f1⟩

/-- a read fills the block g with the next bytes -/
def RetRX (b : Nat) (p : XP) (S : List Nat) (x : XS) (g m e : Nat) (cur : Array Value) (w : World) (en : Ending) (w' : World) : Prop :=
  en = .returned (.tuple #[.int .i64 m, .nilIface]) ∧ XsAt w' b 72 p S (x.read m) ∧ w'.heap[g]? = some (.cells (splice cur 0 (xOut p x m)) e (0, 0)) ∧ Fr [b, g] w w'
theorem shkRead_any (w : World) (b : Nat) (p : XP) (S : List Nat) (x : XS) (hp : p.Ok) (hbS : b ∈ S) (h : XsAt w b 72 p S x) (g m c e : Nat) (cur : Array Value) (hg : w.heap[g]? = some (.cells cur e (0, 0))) (hgS : g ∈ S) (hgb : b ≠ g) (hom : m ≤ cur.size) (hmc : m ≤ c) (hcm : c ≤ 9223372036854775807) :
    Calls Try.prog 43 #[.pointer (some ⟨b, 0, none⟩), .slice (some ⟨g, 0, none⟩) m c] w (RetRX b p S x g m e cur w) := by
  have HG := Lib.hid hg
  have hgw := (Array.getElem?_eq_some_iff.1 hg).1
  clear hg
  obtain ⟨l, k⟩ := x
  cases k with
  | none =>
    go_enter Try.func43, Try.ntmps43
    go_wp2_with fail
    refine (xinit_any w b p S _ hp hbS h).mono ?_
    rintro en w1 ⟨rfl, ⟨ai, ci, h1, h2, D1⟩, f1⟩
    have hok := Lib.hid (hp.abs l)
    have H1 := Lib.hid (And.intro h1 h2)
    have G1 : Hid (w1.heap[g]? = some (.cells cur e (0, 0))) := f1.obj HG.out (by simp; exact fun e => hgb e.symm)
    clear h1 h2
    rw [xD_none] at D1
    go_wp2_with fail
    refine (ShakeRead_abs w1 b 72 _ _ g 0 m c e cur D1 hok.out.1 (by rw [hok.out.2.2.2.2]; rfl) G1.out hgb (by omega) hmc hcm).mono ?_
    rintro en w2 ⟨rfl, D2, g2, f2⟩
    rw [(xRead_none p l m).2] at D2
    rw [(xRead_none p l m).1] at g2
    have HD2 := Lib.hid (And.intro D2 g2)
    clear D2 g2
    go_wp2_with fail
    go_ret2
    exact ⟨rfl, ⟨ai, ci, H1.out.1.keep f2 (fun y hy hn hm => (H1.out.2 y hy hn).1 (by simp at hm; rcases hm with hm | hm <;> rw [hm] <;> assumption)), H1.out.2, .inl HD2.out.1⟩, HD2.out.2, f1.two.trans f2⟩
  | some k =>
    go_enter Try.func43, Try.ntmps43
    go_wp2_with fail
    refine (xinit_any w b p S _ hp hbS h).mono ?_
    rintro en w1 ⟨rfl, ⟨ai, ci, h1, h2, D1⟩, f1⟩
    have hok := Lib.hid (hp.sq l k)
    have H1 := Lib.hid (And.intro h1 h2)
    have G1 : Hid (w1.heap[g]? = some (.cells cur e (0, 0))) := f1.obj HG.out (by simp; exact fun e => hgb e.symm)
    clear h1 h2
    go_wp2_with fail
    refine (ShakeRead_sq w1 b 72 _ _ g 0 m c e cur D1 hok.out.1 (by rw [hok.out.2.2.2.2]; rfl) G1.out hgb (by omega) hmc hcm).mono ?_
    rintro en w2 ⟨rfl, D2, g2, f2⟩
    rw [(xRead_some p l k m).2] at D2
    rw [(xRead_some p l k m).1] at g2
    have HD2 := Lib.hid (And.intro D2 g2)
    clear D2 g2
    go_wp2_with fail
    go_ret2
    exact ⟨rfl, ⟨ai, ci, H1.out.1.keep f2 (fun y hy hn hm => (H1.out.2 y hy hn).1 (by simp at hm; rcases hm with hm | hm <;> rw [hm] <;> assumption)), H1.out.2, .inl HD2.out.1⟩, HD2.out.2, f1.two.trans f2⟩
end Go.Proofs.Ytkijnpjefccepaa
end

section
namespace Go.Proofs.Ytkijnpjefccepaa
open Go.ChangeShapes Go.WideShapes Go.ChangeAt Go.RowKit Go.Sha

set_option maxRecDepth 100000 in
theorem rg0_abs (w : World) (b T : Nat) (ext : List Value) (d : Dg) (a : Option Addr) (c : Nat) (h : DgAt w b T ext d) (hok : d.Ok) (hst : (d.st : Int) = 0) :
    Calls Try.prog 93 #[.pointer (some ⟨b, 0, none⟩), .slice a 0 c] w (RetD (.tuple #[.int .i64 0, .nilIface]) b T ext (padD d) w) := by
  have q1 := h.cst
  rw [hst] at q1
  go_enter Try.func93, Try.ntmps93
  go_wp2_with fail
  refine (padAndPermute_any _ _ _ _ _ h hok.lt hok.le).mono ?_
  rintro en w0 ⟨rfl, H1, F1⟩
  have HH := Lib.hid H1
  clear H1 q1
  go_wp2_with fail
  go_loopw [1, 6] (fun sl _ wr => sl = .slice a 0 c ∧ wr = w0) (fun _ _ _ => 0)
  case atStart => exact ⟨rfl, rfl⟩
  case round =>
    obtain ⟨rfl, rfl⟩ := hrel
    go_wp2
    go_ret2
    exact ⟨rfl, HH.out, F1⟩
theorem dr0_abs (w : World) (b T : Nat) (ext : List Value) (d : Dg) (a : Option Addr) (c : Nat) (h : DgAt w b T ext d) (hok : d.Ok) (hst : (d.st : Int) = 0) :
    Calls Try.prog 75 #[.pointer (some ⟨b, 0, none⟩), .slice a 0 c] w (RetD (.tuple #[.int .i64 0, .nilIface]) b T ext (padD d) w) := by
  go_enter Try.func75, Try.ntmps75
  go_wp2_with fail
  refine (rg0_abs w b T ext d a c h hok hst).mono ?_
  rintro en w' ⟨rfl, h1, h3⟩
  go_wp2_with fail
  go_ret2
  exact ⟨rfl, h1, h3⟩
theorem fr0_abs (w : World) (b T : Nat) (ext : List Value) (d : Dg) (a : Option Addr) (c : Nat) (h : DgAt w b T ext d) (hok : d.Ok) (hst : (d.st : Int) = 0) :
    Calls Try.prog 62 #[.pointer (some ⟨b, 0, none⟩), .slice a 0 c] w (RetD (.tuple #[.int .i64 0, .nilIface]) b T ext (padD d) w) := by
  go_enter Try.func62, Try.ntmps62
  go_wp2_with fail
  refine (recordApproved_any w).mono ?_
  rintro en w' ⟨rfl, rfl⟩
  go_wp2_with fail
  refine (dr0_abs w b T ext d a c h hok hst).mono ?_
  rintro en w' ⟨rfl, h1, h3⟩
  go_wp2_with fail
  go_ret2
  exact ⟨rfl, h1, h3⟩

set_option maxRecDepth 100000 in
theorem rg0_sq (w : World) (b T : Nat) (ext : List Value) (d : Dg) (a : Option Addr) (c : Nat) (h : DgAt w b T ext d) (hst : (d.st : Int) = 1) :
    Calls Try.prog 93 #[.pointer (some ⟨b, 0, none⟩), .slice a 0 c] w (RetD (.tuple #[.int .i64 0, .nilIface]) b T ext (d) w) := by
  have q1 := h.cst
  rw [hst] at q1
  go_enter Try.func93, Try.ntmps93
  go_wp2
  have HH := Lib.hid h
  have F1 := Fr.refl [b] w
  obtain ⟨w0, hw0⟩ : ∃ w0, w0 = w := ⟨_, rfl⟩
  clear q1
  go_loopw [1, 6] (fun sl _ wr => sl = .slice a 0 c ∧ wr = w) (fun _ _ _ => 0)
  case atStart => exact ⟨rfl, rfl⟩
  case round =>
    obtain ⟨rfl, rfl⟩ := hrel
    go_wp2
    go_ret2
    exact ⟨rfl, HH.out, F1⟩
theorem dr0_sq (w : World) (b T : Nat) (ext : List Value) (d : Dg) (a : Option Addr) (c : Nat) (h : DgAt w b T ext d) (hst : (d.st : Int) = 1) :
    Calls Try.prog 75 #[.pointer (some ⟨b, 0, none⟩), .slice a 0 c] w (RetD (.tuple #[.int .i64 0, .nilIface]) b T ext (d) w) := by
  go_enter Try.func75, Try.ntmps75
  go_wp2_with fail
  refine (rg0_sq w b T ext d a c h hst).mono ?_
  rintro en w' ⟨rfl, h1, h3⟩
  go_wp2_with fail
  go_ret2
  exact ⟨rfl, h1, h3⟩
theorem fr0_sq (w : World) (b T : Nat) (ext : List Value) (d : Dg) (a : Option Addr) (c : Nat) (h : DgAt w b T ext d) (hst : (d.st : Int) = 1) :
    Calls Try.prog 62 #[.pointer (some ⟨b, 0, none⟩), .slice a 0 c] w (RetD (.tuple #[.int .i64 0, .nilIface]) b T ext (d) w) := by
  go_enter Try.func62, Try.ntmps62
  go_wp2_with fail
  refine (recordApproved_any w).mono ?_
  rintro en w' ⟨rfl, rfl⟩
  go_wp2_with fail
  refine (dr0_sq w b T ext d a c h hst).mono ?_
  rintro en w' ⟨rfl, h1, h3⟩
  go_wp2_with fail
  go_ret2
  exact ⟨rfl, h1, h3⟩

theorem shkRead0_any (w : World) (b : Nat) (p : XP) (S : List Nat) (x : XS) (hp : p.Ok) (hbS : b ∈ S) (h : XsAt w b 72 p S x) (a : Option Addr) (c : Nat) :
    Calls Try.prog 43 #[.pointer (some ⟨b, 0, none⟩), .slice a 0 c] w (RetS (.tuple #[.int .i64 0, .nilIface]) b p S (x.read 0) w) := by
  obtain ⟨l, k⟩ := x
  cases k with
  | none =>
    go_enter Try.func43, Try.ntmps43
    go_wp2_with fail
    refine (xinit_any w b p S _ hp hbS h).mono ?_
    rintro en w1 ⟨rfl, ⟨ai, ci, h1, h2, D1⟩, f1⟩
    have hok := Lib.hid (hp.abs l)
    have H1 := Lib.hid (And.intro h1 h2)
    clear h1 h2
    rw [xD_none] at D1
    go_wp2_with fail
    refine (fr0_abs w1 b 72 _ _ a c D1 hok.out.1 (by rw [hok.out.2.2.2.2]; rfl)).mono ?_
    rintro en w2 ⟨rfl, D2, f2⟩
    have e2 := (xRead_none p l 0).2
    have HD2 := Lib.hid D2
    clear D2
    go_wp2_with fail
    go_ret2
    exact ⟨rfl, ⟨ai, ci, H1.out.1.keep f2 (fun y hy hn => by simp; intro e; exact (H1.out.2 y hy hn).1 (e ▸ hbS)), H1.out.2, .inl (by rw [← e2]; exact HD2.out)⟩, f1.trans f2⟩
  | some k =>
    go_enter Try.func43, Try.ntmps43
    go_wp2_with fail
    refine (xinit_any w b p S _ hp hbS h).mono ?_
    rintro en w1 ⟨rfl, ⟨ai, ci, h1, h2, D1⟩, f1⟩
    have hok := Lib.hid (hp.sq l k)
    have H1 := Lib.hid (And.intro h1 h2)
    clear h1 h2
    go_wp2_with fail
    refine (fr0_sq w1 b 72 _ _ a c D1 (by rw [hok.out.2.2.2.2]; rfl)).mono ?_
    rintro en w2 ⟨rfl, D2, f2⟩
    have e2 := (xRead_some p l k 0).2
    have HD2 := Lib.hid D2
    clear D2
    go_wp2_with fail
    go_ret2
    exact ⟨rfl, ⟨ai, ci, H1.out.1.keep f2 (fun y hy hn => by simp; intro e; exact (H1.out.2 y hy hn).1 (e ▸ hbS)), H1.out.2, .inl (by rw [← e2]; exact HD2.out)⟩, f1.trans f2⟩
end Go.Proofs.Ytkijnpjefccepaa
end

section
namespace Go.Sha
open Go.RowKit
theorem Sl.made (w : World) (k c e : Nat) (hk : k ≤ c) (hc : c ≤ maxLen) : Sl (w.alloc (.cells (madeCells #[.int .u8 0] c) e)) (some ⟨w.heap.size, 0, none⟩) k c (List.replicate k 0) := by
  refine ⟨by simp, hk, hc, .inr ⟨w.heap.size, 0, rfl, fun i hi => ?_⟩⟩
  rw [cell_of (Go.heap_alloc_new w _), Nat.zero_add]
  rw [← Array.getElem?_toList, toList_madeCells_one]
  simp [List.getD_eq_getElem?_getD, hi, show i < c by omega]
theorem u8_ofNat (x : Nat) : ((UInt8.ofNat x).toNat : Int) = (x : Int) % 256 := by
  rw [UInt8.toNat_ofNat']
  omega
end Go.Sha
namespace Go.Proofs.Ytkijnpjefccepaa
open Go.ChangeShapes Go.WideShapes Go.ChangeAt Go.RowKit Go.Sha
theorem chain8 (w : World) (g : Nat) (z0 z1 z2 z3 z4 z5 z6 z7 z8 u1 u2 u3 u4 u5 u6 u7 u8 : Value) (hg : w.heap[g]? = some (.cells #[z0, z1, z2, z3, z4, z5, z6, z7, z8] 5 (0, 0))) :
    ((((((((w.setCell ⟨g, 1, none⟩ u1).setCell ⟨g, 2, none⟩ u2).setCell ⟨g, 3, none⟩ u3).setCell ⟨g, 4, none⟩ u4).setCell ⟨g, 5, none⟩ u5).setCell ⟨g, 6, none⟩ u6).setCell ⟨g, 7, none⟩ u7).setCell ⟨g, 8, none⟩ u8).heap[g]? = some (.cells #[z0, u1, u2, u3, u4, u5, u6, u7, u8] 5 (0, 0)) ∧ Fr [g] w ((((((((w.setCell ⟨g, 1, none⟩ u1).setCell ⟨g, 2, none⟩ u2).setCell ⟨g, 3, none⟩ u3).setCell ⟨g, 4, none⟩ u4).setCell ⟨g, 5, none⟩ u5).setCell ⟨g, 6, none⟩ u6).setCell ⟨g, 7, none⟩ u7).setCell ⟨g, 8, none⟩ u8) := by
  have h1 : (w.setCell ⟨g, 1, none⟩ u1).heap[g]? = some (.cells #[z0, u1, z2, z3, z4, z5, z6, z7, z8] 5 (0, 0)) := Go.Sha.heap_setCell_same hg u1
  have f1 : Fr [g] w (w.setCell ⟨g, 1, none⟩ u1) := (Fr.refl _ _).setCell _ _ (.inr (by simp))
  generalize w.setCell ⟨g, 1, none⟩ u1 = w1 at h1 f1 ⊢
  have h2 : (w1.setCell ⟨g, 2, none⟩ u2).heap[g]? = some (.cells #[z0, u1, u2, z3, z4, z5, z6, z7, z8] 5 (0, 0)) := Go.Sha.heap_setCell_same h1 u2
  have f2 : Fr [g] w (w1.setCell ⟨g, 2, none⟩ u2) := f1.setCell _ _ (.inr (by simp))
  generalize w1.setCell ⟨g, 2, none⟩ u2 = w2 at h2 f2 ⊢
  have h3 : (w2.setCell ⟨g, 3, none⟩ u3).heap[g]? = some (.cells #[z0, u1, u2, u3, z4, z5, z6, z7, z8] 5 (0, 0)) := Go.Sha.heap_setCell_same h2 u3
  have f3 : Fr [g] w (w2.setCell ⟨g, 3, none⟩ u3) := f2.setCell _ _ (.inr (by simp))
  generalize w2.setCell ⟨g, 3, none⟩ u3 = w3 at h3 f3 ⊢
  have h4 : (w3.setCell ⟨g, 4, none⟩ u4).heap[g]? = some (.cells #[z0, u1, u2, u3, u4, z5, z6, z7, z8] 5 (0, 0)) := Go.Sha.heap_setCell_same h3 u4
  have f4 : Fr [g] w (w3.setCell ⟨g, 4, none⟩ u4) := f3.setCell _ _ (.inr (by simp))
  generalize w3.setCell ⟨g, 4, none⟩ u4 = w4 at h4 f4 ⊢
  have h5 : (w4.setCell ⟨g, 5, none⟩ u5).heap[g]? = some (.cells #[z0, u1, u2, u3, u4, u5, z6, z7, z8] 5 (0, 0)) := Go.Sha.heap_setCell_same h4 u5
  have f5 : Fr [g] w (w4.setCell ⟨g, 5, none⟩ u5) := f4.setCell _ _ (.inr (by simp))
  generalize w4.setCell ⟨g, 5, none⟩ u5 = w5 at h5 f5 ⊢
  have h6 : (w5.setCell ⟨g, 6, none⟩ u6).heap[g]? = some (.cells #[z0, u1, u2, u3, u4, u5, u6, z7, z8] 5 (0, 0)) := Go.Sha.heap_setCell_same h5 u6
  have f6 : Fr [g] w (w5.setCell ⟨g, 6, none⟩ u6) := f5.setCell _ _ (.inr (by simp))
  generalize w5.setCell ⟨g, 6, none⟩ u6 = w6 at h6 f6 ⊢
  have h7 : (w6.setCell ⟨g, 7, none⟩ u7).heap[g]? = some (.cells #[z0, u1, u2, u3, u4, u5, u6, u7, z8] 5 (0, 0)) := Go.Sha.heap_setCell_same h6 u7
  have f7 : Fr [g] w (w6.setCell ⟨g, 7, none⟩ u7) := f6.setCell _ _ (.inr (by simp))
  generalize w6.setCell ⟨g, 7, none⟩ u7 = w7 at h7 f7 ⊢
  have h8 : (w7.setCell ⟨g, 8, none⟩ u8).heap[g]? = some (.cells #[z0, u1, u2, u3, u4, u5, u6, u7, u8] 5 (0, 0)) := Go.Sha.heap_setCell_same h7 u8
  have f8 : Fr [g] w (w7.setCell ⟨g, 8, none⟩ u8) := f7.setCell _ _ (.inr (by simp))
  exact ⟨h8, f8⟩
set_option maxRecDepth 100000 in
set_option maxHeartbeats 1600000 in
theorem bePut_any (x : Nat) (hx : x < 18446744073709551616) (w : World) (g : Nat) (z0 z1 z2 z3 z4 z5 z6 z7 z8 : Value) (hg : w.heap[g]? = some (.cells #[z0, z1, z2, z3, z4, z5, z6, z7, z8] 5 (0, 0))) :
    Calls Try.prog 103 #[.slice (some ⟨g, 1, none⟩) 8 8, .int .u64 (x : Int)] w fun e w' => e = .returned (.tuple #[]) ∧ w'.heap[g]? = some (.cells #[z0, .int .u8 (UInt8.ofNat (x / 72057594037927936)).toNat, .int .u8 (UInt8.ofNat (x / 281474976710656)).toNat, .int .u8 (UInt8.ofNat (x / 1099511627776)).toNat, .int .u8 (UInt8.ofNat (x / 4294967296)).toNat, .int .u8 (UInt8.ofNat (x / 16777216)).toNat, .int .u8 (UInt8.ofNat (x / 65536)).toNat, .int .u8 (UInt8.ofNat (x / 256)).toNat, .int .u8 (UInt8.ofNat (x / 1)).toNat] 5 (0, 0)) ∧ Fr [g] w w' := by
  have c1 : w.cell? ⟨g, 1, none⟩ = some z1 := by rw [cell_of hg]; rfl
  have c2 : w.cell? ⟨g, 2, none⟩ = some z2 := by rw [cell_of hg]; rfl
  have c3 : w.cell? ⟨g, 3, none⟩ = some z3 := by rw [cell_of hg]; rfl
  have c4 : w.cell? ⟨g, 4, none⟩ = some z4 := by rw [cell_of hg]; rfl
  have c5 : w.cell? ⟨g, 5, none⟩ = some z5 := by rw [cell_of hg]; rfl
  have c6 : w.cell? ⟨g, 6, none⟩ = some z6 := by rw [cell_of hg]; rfl
  have c7 : w.cell? ⟨g, 7, none⟩ = some z7 := by rw [cell_of hg]; rfl
  have c8 : w.cell? ⟨g, 8, none⟩ = some z8 := by rw [cell_of hg]; rfl
  have fz : ∀ i, w.frozen? ⟨g, i, none⟩ = false := fun i => by simp [World.frozen?, hg]
  have HG := Lib.hid hg
  clear hg
  go_enter Try.func103, Try.ntmps103
  go_wp2
  go_end0
  have v1 : (x : Int) / 72057594037927936 = ((UInt8.ofNat (x / 72057594037927936)).toNat : Int) := by rw [u8_ofNat]; omega
  have v2 : (x : Int) / 281474976710656 % 256 = ((UInt8.ofNat (x / 281474976710656)).toNat : Int) := by rw [u8_ofNat]; omega
  have v3 : (x : Int) / 1099511627776 % 256 = ((UInt8.ofNat (x / 1099511627776)).toNat : Int) := by rw [u8_ofNat]; omega
  have v4 : (x : Int) / 4294967296 % 256 = ((UInt8.ofNat (x / 4294967296)).toNat : Int) := by rw [u8_ofNat]; omega
  have v5 : (x : Int) / 16777216 % 256 = ((UInt8.ofNat (x / 16777216)).toNat : Int) := by rw [u8_ofNat]; omega
  have v6 : (x : Int) / 65536 % 256 = ((UInt8.ofNat (x / 65536)).toNat : Int) := by rw [u8_ofNat]; omega
  have v7 : (x : Int) / 256 % 256 = ((UInt8.ofNat (x / 256)).toNat : Int) := by rw [u8_ofNat]; omega
  have v8 : (x : Int) % 256 = ((UInt8.ofNat (x / 1)).toNat : Int) := by rw [u8_ofNat]; omega
  rw [v1, v2, v3, v4, v5, v6, v7, v8]
  exact ⟨rfl, chain8 w g z0 z1 z2 z3 z4 z5 z6 z7 z8 _ _ _ _ _ _ _ _ HG.out⟩
theorem bePutD_any (x : Nat) (hx : x < 18446744073709551616) (w : World) (g : Nat) (z0 z1 z2 z3 z4 z5 z6 z7 z8 : Value) (hg : w.heap[g]? = some (.cells #[z0, z1, z2, z3, z4, z5, z6, z7, z8] 5 (0, 0))) :
    Calls Try.prog 100 #[.slice (some ⟨g, 1, none⟩) 8 8, .int .u64 (x : Int)] w fun e w' => e = .returned (.tuple #[]) ∧ w'.heap[g]? = some (.cells #[z0, .int .u8 (UInt8.ofNat (x / 72057594037927936)).toNat, .int .u8 (UInt8.ofNat (x / 281474976710656)).toNat, .int .u8 (UInt8.ofNat (x / 1099511627776)).toNat, .int .u8 (UInt8.ofNat (x / 4294967296)).toNat, .int .u8 (UInt8.ofNat (x / 16777216)).toNat, .int .u8 (UInt8.ofNat (x / 65536)).toNat, .int .u8 (UInt8.ofNat (x / 256)).toNat, .int .u8 (UInt8.ofNat (x / 1)).toNat] 5 (0, 0)) ∧ Fr [g] w w' := by
  have HG := Lib.hid hg
  clear hg
  go_enter Try.func100, Try.ntmps100
  go_wp2_with fail
  refine (bePut_any x hx w g _ _ _ _ _ _ _ _ _ HG.out).mono ?_
  rintro e w1 ⟨rfl, g1, f1⟩
  have G1 := Lib.hid g1
  clear g1
  go_wp2_with fail
  go_end0
  exact ⟨rfl, G1.out, f1⟩
/-- the bytes of a number, the last ones of nine -/
theorem le_sl (x n : Nat) (hn : 1 ≤ n) (hn8 : n ≤ 8) (w : World) (g : Nat) (z0 : Value) (hg : w.heap[g]? = some (.cells #[z0, .int .u8 (UInt8.ofNat (x / 72057594037927936)).toNat, .int .u8 (UInt8.ofNat (x / 281474976710656)).toNat, .int .u8 (UInt8.ofNat (x / 1099511627776)).toNat, .int .u8 (UInt8.ofNat (x / 4294967296)).toNat, .int .u8 (UInt8.ofNat (x / 16777216)).toNat, .int .u8 (UInt8.ofNat (x / 65536)).toNat, .int .u8 (UInt8.ofNat (x / 256)).toNat, .int .u8 (UInt8.ofNat (x / 1)).toNat] 5 (0, 0))) :
    Sl (w.setCell ⟨g, 8 - n, none⟩ (.int .u8 (UInt8.ofNat n).toNat)) (some ⟨g, 8 - n, none⟩) (n + 1) (n + 1) (UInt8.ofNat n :: be x n) := by
  refine ⟨by simp [be_length], Nat.le_refl _, by unfold maxLen; omega, .inr ⟨g, 8 - n, rfl, fun i hi => ?_⟩⟩
  rw [cell_of (Go.Sha.heap_setCell_same hg _)]
  obtain rfl | rfl | rfl | rfl | rfl | rfl | rfl | rfl : n = 1 ∨ n = 2 ∨ n = 3 ∨ n = 4 ∨ n = 5 ∨ n = 6 ∨ n = 7 ∨ n = 8 := by omega
  all_goals
    rcases i with _ | _ | _ | _ | _ | _ | _ | _ | _ | i
    all_goals first | rfl | omega | (exfalso; omega)
theorem made9 : madeCells #[Value.int .u8 0] 9 = #[.int .u8 0, .int .u8 0, .int .u8 0, .int .u8 0, .int .u8 0, .int .u8 0, .int .u8 0, .int .u8 0, .int .u8 0] := by kernel_rfl
/-- what leftEncode hands back -/
def RetLe (x : Nat) (w : World) (e : Ending) (w' : World) : Prop := ∃ g o, e = .returned (.slice (some ⟨g, o, none⟩) (nb x + 1) (nb x + 1)) ∧ w.heap.size ≤ g ∧ Sl w' (some ⟨g, o, none⟩) (nb x + 1) (nb x + 1) (lenc x) ∧ Fr [] w w'
set_option maxRecDepth 100000 in
set_option maxHeartbeats 1600000 in
theorem leftEncode_k (x n j L : Nat) (hx : x < 18446744073709551616) (hn : nb x = n) (hL : Lib.bitLen x = L) (hq : (L + 7) / 8 = n ∨ (L + 7) / 8 = 0 ∧ n = 1) (hn1 : 1 ≤ n) (hn8 : n ≤ 8) (hj : 8 - n = j) (w : World) :
    Calls Try.prog 94 #[.int .u64 (x : Int)] w (RetLe x w) := by
  have hLb : L ≤ 64 := by omega
  have e1 : IntKind.i64.wrap ((L : Int) + 7) = (L : Int) + 7 := IntWalk.i64_in _ (by omega)
  have HL := Lib.hid hL
  have HN := Lib.hid hn
  have mk : ∀ u : World, (Instr.makeSlice 22 (.int .i64 9) (.int .i64 9)).run Try.prog u = .ok (.slice (some ⟨u.heap.size, 0, none⟩) 9 9) (u.alloc (.cells (madeCells #[.int .u8 0] 9) 5)) := make_bytes 9 (by omega)
  have c1 : IntKind.u8.wrap (n : Int) = (n : Int) := wrap_u8 n (by omega)
  have s1 : (9 : Int) - (n : Int) = (j : Int) + 1 := by omega
  have s2 : IntKind.i64.wrap ((j : Int) + 1) = (j : Int) + 1 := IntWalk.i64_in _ (by omega)
  have s3 : IntKind.i64.wrap (j : Int) = (j : Int) := IntWalk.i64_in _ (by omega)
  have s4 : (j : Int) ≤ 9 := by omega
  have s5 : ¬ 9 = j := by omega
  clear hL hn
  rcases hq with hq | ⟨hq, rfl⟩
  · skip
    have e2 : ((L : Int) + 7) / 8 = (n : Int) := by omega
    have b0 : (((n : Int)) == 0) = false := by rw [beq_eq_false_iff_ne]; omega
    clear hq
    go_enter Try.func94, Try.ntmps94
    go_wp2_with fail
    refine (len64_any (x : Int) w (by omega) (by omega)).mono ?_
    rintro e w' ⟨rfl, rfl⟩
    rw [show ((x : Int)).toNat = x by omega, HL.out]
    go_wp2_with fail
    clear mk
    have G1 : Hid ((w'.alloc (.cells (madeCells #[.int .u8 0] 9) 5)).heap[w'.heap.size]? = some (.cells #[.int .u8 0, .int .u8 0, .int .u8 0, .int .u8 0, .int .u8 0, .int .u8 0, .int .u8 0, .int .u8 0, .int .u8 0] 5 (0, 0))) := by
      show _ = _
      rw [made9]
      exact Go.heap_alloc_new w' _
    have f1 : Fr [] w' (w'.alloc (.cells (madeCells #[.int .u8 0] 9) 5)) := (Fr.refl _ _).alloc _
    generalize w'.alloc (.cells (madeCells #[.int .u8 0] 9) 5) = w1 at G1 f1 ⊢
    refine (bePutD_any x hx w1 _ _ _ _ _ _ _ _ _ _ G1.out).mono ?_
    rintro e w2 ⟨rfl, g2, f2⟩
    have G2 := Lib.hid g2
    have fz : w2.frozen? ⟨w'.heap.size, j, none⟩ = false := by simp [World.frozen?, g2]
    obtain ⟨v, hv⟩ : ∃ v, w2.cell? ⟨w'.heap.size, j, none⟩ = some v := by
      rw [cell_of g2]
      exact ⟨_, Array.getElem?_eq_getElem (by simp; omega)⟩
    clear g2 G1
    go_wp2_with fail
    go_ret
    have S3 := le_sl x n hn1 hn8 w2 _ _ G2.out
    have f3 : Fr [] w' (w2.setCell ⟨w'.heap.size, 8 - n, none⟩ (.int .u8 (UInt8.ofNat n).toNat)) := (f1.via f2 (by simp)).setCell _ _ (.inl (Nat.le_refl _))
    rw [hj] at S3 f3
    refine ⟨w'.heap.size, j, ?_, Nat.le_refl _, ?_, ?_⟩
    · rw [HN.out]
      have : 9 - j = n + 1 := by omega
      simp [this]
    · rw [lenc, HN.out]
      rw [u8_ofNat, show (n : Int) % 256 = n by omega] at S3
      exact S3
    · rw [u8_ofNat, show (n : Int) % 256 = n by omega] at f3
      exact f3
  · obtain rfl : j = 7 := by omega
    clear s1 s2 s3 s4 s5 c1
    have e2 : ((L : Int) + 7) / 8 = 0 := by omega
    have b0 : ((0 : Int) == 0) = true := by decide
    clear hq
    go_enter Try.func94, Try.ntmps94
    go_wp2_with fail
    refine (len64_any (x : Int) w (by omega) (by omega)).mono ?_
    rintro e w' ⟨rfl, rfl⟩
    rw [show ((x : Int)).toNat = x by omega, HL.out]
    go_wp2_with fail
    clear mk
    have G1 : Hid ((w'.alloc (.cells (madeCells #[.int .u8 0] 9) 5)).heap[w'.heap.size]? = some (.cells #[.int .u8 0, .int .u8 0, .int .u8 0, .int .u8 0, .int .u8 0, .int .u8 0, .int .u8 0, .int .u8 0, .int .u8 0] 5 (0, 0))) := by
      show _ = _
      rw [made9]
      exact Go.heap_alloc_new w' _
    have f1 : Fr [] w' (w'.alloc (.cells (madeCells #[.int .u8 0] 9) 5)) := (Fr.refl _ _).alloc _
    generalize w'.alloc (.cells (madeCells #[.int .u8 0] 9) 5) = w1 at G1 f1 ⊢
    refine (bePutD_any x hx w1 _ _ _ _ _ _ _ _ _ _ G1.out).mono ?_
    rintro e w2 ⟨rfl, g2, f2⟩
    have G2 := Lib.hid g2
    have fz : w2.frozen? ⟨w'.heap.size, 7, none⟩ = false := by simp [World.frozen?, g2]
    obtain ⟨v, hv⟩ : ∃ v, w2.cell? ⟨w'.heap.size, 7, none⟩ = some v := by
      rw [cell_of g2]
      exact ⟨_, Array.getElem?_eq_getElem (by simp)⟩
    clear g2 G1
    go_wp2_with fail
    go_ret
    have S3 := le_sl x 1 hn1 hn8 w2 _ _ G2.out
    have f3 : Fr [] w' (w2.setCell ⟨w'.heap.size, 7, none⟩ (.int .u8 (UInt8.ofNat 1).toNat)) := (f1.via f2 (by simp)).setCell _ _ (.inl (Nat.le_refl _))
    refine ⟨w'.heap.size, 7, ?_, Nat.le_refl _, ?_, ?_⟩
    · rw [HN.out]
      rfl
    · rw [lenc, HN.out]
      exact S3
    · exact f3
theorem leftEncode_any (x : Nat) (hx : x < 18446744073709551616) (w : World) : Calls Try.prog 94 #[.int .u64 (x : Int)] w (RetLe x w) := by
  refine leftEncode_k x (nb x) (8 - nb x) (Lib.bitLen x) hx rfl rfl ?_ (nb_le x).1 (nb_le x).2 rfl w
  by_cases h0 : x = 0
  · subst h0
    exact .inr ⟨by decide, by decide⟩
  · exact .inl (nb_bit x h0 hx)

set_option maxRecDepth 100000 in
set_option maxHeartbeats 800000 in
theorem bytepadWrite_any (w : World) (b T : Nat) (ext : List Value) (d : Dg) (ad : Option Addr) (nd cd : Nat) (data : Bs) (r : Nat) (h : DgAt w b T ext d) (hd : d.Ok) (hst : d.st = 0) (hS : Sl w ad nd cd data) (hne : ∀ x, ad = some x → nd ≠ 0 → x.block ≠ b) (hr0 : 0 < r) (hr : r ≤ 168) (hnd : nd ≤ 281474976710656) :
    Calls Try.prog 77 #[.pointer (some ⟨b, 0, none⟩), .slice ad nd cd, .int .i64 (r : Int)] w (RetD (.tuple #[]) b T ext (absorb d (bpad r data)) w) := by
  have hnb := nb_le r
  have hlen := hS.len
  have hbl := h.lt
  obtain ⟨m, hm⟩ : ∃ m, m = nb r + 1 := ⟨_, rfl⟩
  have HM := Lib.hid hm
  have c1 : IntKind.u64.wrap (r : Int) = (r : Int) := by simp [IntKind.wrap, IntKind.bits, IntKind.signed]; omega
  have s1 : IntKind.i64.wrap ((m : Int) + (nd : Int)) = (m : Int) + (nd : Int) := IntWalk.i64_in _ (by omega)
  obtain ⟨q, hq⟩ : ∃ q, q = (m + nd) % r := ⟨_, rfl⟩
  have hql : q < r := by rw [hq]; exact Nat.mod_lt _ hr0
  have s2 : Int.tmod ((m : Int) + (nd : Int)) (r : Int) = (q : Int) := by rw [Int.tmod_eq_emod_of_nonneg (by omega), hq]; push_cast; rfl
  have s2' : ((m : Int) + (nd : Int)) % (r : Int) = (q : Int) := by rw [hq]; push_cast; rfl
  have s3 : IntKind.i64.wrap (q : Int) = (q : Int) := IntWalk.i64_in _ (by omega)
  have s4 : IntKind.i64.wrap ((r : Int) - (q : Int)) = (r : Int) - (q : Int) := IntWalk.i64_in _ (by omega)
  have rz : ((r : Int) == 0) = false := by rw [beq_eq_false_iff_ne]; omega
  have rz2 : ¬ (r : Int) = 0 := by omega
  have HQ := Lib.hid hq
  have HS := Lib.hid hS
  have HDK := Lib.hid (And.intro hd hst)
  clear hm hq hS hd hst
  go_enter Try.func77, Try.ntmps77
  go_wp2_with fail
  refine (leftEncode_any r (by omega) w).mono ?_
  rintro e w1 ⟨g, o, rfl, hg, s1L, f1⟩
  rw [← HM.out] at s1L ⊢
  have S1 := Lib.hid s1L
  have D1 := Lib.hid (h.keep f1 (by simp))
  have HS1 := Lib.hid (HS.out.keep0 f1)
  clear s1L h HS
  go_wp2_with fail
  refine (ShakeWrite_any w1 b T ext d _ m m (lenc r) D1.out HDK.out.1 HDK.out.2 S1.out (fun x hx _ => by simp only [Option.some.injEq] at hx; subst hx; simp only; omega)).mono ?_
  rintro e w2 ⟨rfl, D2, f2⟩
  have ok2 := absorb_ok HDK.out.1 (lenc r)
  have HD2 := Lib.hid D2
  have HK2 := Lib.hid ok2
  have S2 := Lib.hid (HS1.out.keep f2 (fun x hx hn => by simp; exact hne x hx hn))
  clear D2 ok2 D1 S1 HS1
  go_wp2_with fail
  refine (ShakeWrite_any w2 b T ext _ _ nd cd data HD2.out HK2.out.1 (by rw [HK2.out.2.2.2.2]; exact HDK.out.2) S2.out hne).mono ?_
  rintro e w3 ⟨rfl, D3, f3⟩
  rw [← absorb_append] at D3
  have ok3 := absorb_ok HDK.out.1 (lenc r ++ data)
  have HD3 := Lib.hid D3
  have HK3 := Lib.hid ok3
  have F3 : Fr [b] w w3 := ((f1.mono (by simp)).trans f2).trans f3
  clear D3 ok3 HD2 HK2 S2 f1 f2 f3
  have eb : bpad r data = lenc r ++ data ++ List.replicate ((r - q) % r) 0 := by
    rw [bpad, ← HM.out, HQ.out, hlen]
  have EB := Lib.hid eb
  clear eb
  by_cases hz : q = 0
  · subst hz
    have t1 : ¬ ((r : Int) - ((0 : Nat) : Int)) < (r : Int) := by omega
    go_wp2_with fail
    go_end0
    refine ⟨rfl, ?_, F3⟩
    rw [EB.out, Nat.sub_zero, Nat.mod_self, List.replicate_zero, List.append_nil]
    exact HD3.out
  · obtain ⟨k, hk⟩ : ∃ k, k = r - q := ⟨_, rfl⟩
    have t0 : (r : Int) - (q : Int) = (k : Int) := by omega
    have t1 : (k : Int) < (r : Int) := by omega
    have t2 : IntKind.i64.wrap (k : Int) = (k : Int) := IntWalk.i64_in _ (by omega)
    have hmk := make_cap2 k 168 (k : Int) 168 rfl rfl (by omega) (by omega)
    have HKK := Lib.hid hk
    clear hk
    go_wp2_with fail
    clear hmk
    have f4 : Fr [] w3 (w3.alloc (.cells (madeCells #[.int .u8 0] 168) 5)) := (Fr.refl _ _).alloc _
    have S4 : Hid (Sl (w3.alloc (.cells (madeCells #[.int .u8 0] 168) 5)) (some ⟨w3.heap.size, 0, none⟩) k 168 (List.replicate k 0)) := Sl.made w3 k 168 5 (by omega) (by simp [maxLen])
    have D4 := Lib.hid (HD3.out.keep f4 (by simp))
    have hb4 : b < w3.heap.size := HD3.out.lt
    generalize w3.alloc (.cells (madeCells #[.int .u8 0] 168) 5) = w4 at f4 S4 D4 ⊢
    refine (ShakeWrite_any w4 b T ext _ _ k 168 _ D4.out HK3.out.1 (by rw [HK3.out.2.2.2.2]; exact HDK.out.2) S4.out (fun x hx _ => by simp only [Option.some.injEq] at hx; subst hx; simp only; omega)).mono ?_
    rintro e w5 ⟨rfl, D5, f5⟩
    rw [← absorb_append] at D5
    have HD5 := Lib.hid D5
    clear D5
    go_wp2_with fail
    go_end0
    refine ⟨rfl, ?_, (F3.trans (f4.mono (by simp))).trans f5⟩
    rw [EB.out, ← HKK.out, Nat.mod_eq_of_lt (by omega)]
    exact HD5.out
end Go.Proofs.Ytkijnpjefccepaa
end
