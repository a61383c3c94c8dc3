/- Contracts and lemmas, merged: Xw, Xb. Their conditions stand in each. -/
import Derived.Test.YtkijnpjefccepaaGA
import Derived.Test.YtkijnpjefccepaaGB
import Derived.Test.YtkijnpjefccepaaGC
import Derived.Test.YtkijnpjefccepaaGG
import Derived.Test.YtkijnpjefccepaaGH
import Derived.Test.YtkijnpjefccepaaGX
import Derived.Test.YtkijnpjefccepaaGY
import Derived.Test.YtkijnpjefccepaaGXA
import Derived.Test.YtkijnpjefccepaaGXB
import Derived.Test.YtkijnpjefccepaaGXI
import Derived.Defers
import Derived.Laws.Pointers
import Derived.Recover
section
namespace Go.Proofs.Ytkijnpjefccepaa
open Go.ChangeShapes Go.WideShapes Go.ChangeAt Go.RowKit Go.Sha
theorem writeGeneric_pan (w : World) (b T : Nat) (ext : List Value) (d : Dg) (ap : Option Addr) (np cp : Nat) (h : DgAt w b T ext d) (hst : (d.st : Int) = 1) :
    Calls Try.prog 101 #[.pointer (some ⟨b, 0, none⟩), .slice ap np cp] w fun e w' => (∃ v, e = .panicked [{ v := .iface 9 v, recovered := false }]) ∧ w' = w := by
  have q1 := h.cst
  rw [hst] at q1
  go_enter Try.func101, Try.ntmps101
  go_wp2_with fail
  exact ⟨rfl, ⟨_, rfl⟩, rfl⟩
theorem dwrite_pan (w : World) (b T : Nat) (ext : List Value) (d : Dg) (ap : Option Addr) (np cp : Nat) (h : DgAt w b T ext d) (hst : (d.st : Int) = 1) :
    Calls Try.prog 96 #[.pointer (some ⟨b, 0, none⟩), .slice ap np cp] w fun e w' => (∃ v, e = .panicked [{ v := .iface 9 v, recovered := false }]) ∧ w' = w := by
  go_enter Try.func96, Try.ntmps96
  go_wp2_with fail
  refine (writeGeneric_pan w b T ext d ap np cp h hst).mono ?_
  rintro e w' ⟨⟨v, rfl⟩, rfl⟩
  go_wp2_with fail
  exact ⟨rfl, ⟨_, rfl⟩, rfl⟩
theorem dWrite_pan (w : World) (b T : Nat) (ext : List Value) (d : Dg) (ap : Option Addr) (np cp : Nat) (h : DgAt w b T ext d) (hst : (d.st : Int) = 1) :
    Calls Try.prog 89 #[.pointer (some ⟨b, 0, none⟩), .slice ap np cp] w fun e w' => (∃ v, e = .panicked [{ v := .iface 9 v, recovered := false }]) ∧ w' = w := by
  go_enter Try.func89, Try.ntmps89
  go_wp2_with fail
  refine (dwrite_pan w b T ext d ap np cp h hst).mono ?_
  rintro e w' ⟨⟨v, rfl⟩, rfl⟩
  go_wp2_with fail
  exact ⟨rfl, ⟨_, rfl⟩, rfl⟩
theorem fWrite_pan (w : World) (b T : Nat) (ext : List Value) (d : Dg) (ap : Option Addr) (np cp : Nat) (h : DgAt w b T ext d) (hst : (d.st : Int) = 1) :
    Calls Try.prog 72 #[.pointer (some ⟨b, 0, none⟩), .slice ap np cp] w fun e w' => (∃ v, e = .panicked [{ v := .iface 9 v, recovered := false }]) ∧ w' = w := by
  go_enter Try.func72, Try.ntmps72
  go_wp2_with fail
  refine (dWrite_pan w b T ext d ap np cp h hst).mono ?_
  rintro e w' ⟨⟨v, rfl⟩, rfl⟩
  go_wp2_with fail
  exact ⟨rfl, ⟨_, rfl⟩, rfl⟩
/-- a write behind a read panics -/
theorem shkWrite_pan (w : World) (b : Nat) (p : XP) (S : List Nat) (l : Bs) (k : Nat) (hp : p.Ok) (hbS : b ∈ S) (h : XsAt w b 72 p S ⟨l, some k⟩) (ap : Option Addr) (np cp : Nat) :
    Calls Try.prog 60 #[.pointer (some ⟨b, 0, none⟩), .slice ap np cp] w fun e w' => (∃ v, e = .panicked [{ v := .iface 9 v, recovered := false }]) ∧ XsAt w' b 72 p S ⟨l, some k⟩ ∧ Fr [b] w w' := by
  go_enter Try.func60, Try.ntmps60
  go_wp2_with fail
  refine (xinit_any w b p S _ hp hbS h).mono ?_
  rintro e w1 ⟨rfl, ⟨ai, ci, h1, h2, D1⟩, f1⟩
  have hok := Lib.hid (hp.sq l k)
  have H1 := Lib.hid (And.intro h1 (And.intro h2 D1))
  clear h1 h2
  go_wp2_with fail
  refine (fWrite_pan w1 b 72 _ _ ap np cp D1 (by rw [hok.out.2.2.2.2]; rfl)).mono ?_
  rintro e w' ⟨⟨v, rfl⟩, rfl⟩
  clear D1
  go_wp2_with fail
  exact ⟨rfl, ⟨_, rfl⟩, ⟨ai, ci, H1.out.1, H1.out.2.1, .inl H1.out.2.2⟩, f1⟩
theorem catch_idle (q : Addr) (w : World) :
    CallsD Try.prog 59 #[.pointer (some q)] .returning w fun e u' w' => e = .returned (.tuple #[]) ∧ u' = .returning ∧ w' = w := by
  refine callsD_of_wpS Try.func59 rfl fun c₀ cs hu => ?_
  apply wpS_seq
  apply wpS_region
  simp [wpOpsS, go_sem, recoverD, hu, Try.ntmps59, Exit.thenS]
  refine wpS_cond (t := false) (by simp [Act.eval, Array.replicate]) ?_
  simp only [Bool.false_eq_true, if_false]
  refine wpS_of_wp (wp_skip ?_)
  cases c₀
  simp_all [bodyPostS, results, Try.results59]
theorem catch_pan (g : Nat) (u : TypeId) (pv : Value) (w : World) (hg : w.heap[g]? = some (.cells #[.int .i64 0, .slice none 0 0, .bool false, .bool false] 32 (0, 0))) :
    CallsD Try.prog 59 #[.pointer (some ⟨g, 0, none⟩)] (.panicking [{ v := .iface u pv, recovered := false }]) w fun e u' w' =>
      e = .returned (.tuple #[]) ∧ u' = .panicking [{ v := .iface u pv, recovered := true }] ∧ w' = w.setRow g #[.int .i64 0, .slice none 0 0, .bool false, .bool true] := by
  refine callsD_of_wpS Try.func59 rfl fun c₀ cs hu => ?_
  apply wpS_seq
  apply wpS_region
  simp [wpOpsS, go_sem, recoverD, hu, Try.ntmps59, Exit.thenS]
  refine wpS_cond (t := true) (by simp [Act.eval, Array.replicate]) ?_
  simp only [if_true]
  refine wpS_of_wp ?_
  change Code.wp Try.prog _ _ { tmps := #[.pointer (some ⟨g, 0, none⟩), .iface u pv, .bool true, undef], defers := [] } w
  have HG := Lib.hid hg
  have hb : Try.prog.built 32 [(3, .bool true)] = some #[.int .i64 0, .slice none 0 0, .bool false, .bool true] := by kernel_rfl
  have HB := Lib.hid hb
  clear hb hg
  refine wp_region_list ?_
  refine wpList_build1 rfl 32 3 _ (.bool true) rfl rfl #[.int .i64 0, .slice none 0 0, .bool false, .bool true] HB.out ?_
  refine wpList_store_bits rfl _ _ _ rfl g rfl 32 #[.int .i64 0, .slice none 0 0, .bool false, .bool true] #[.int .i64 0, .slice none 0 0, .bool false, .bool false] rfl HG.out rfl (by intro v hv; simp at hv; rcases hv with rfl | rfl | rfl | rfl <;> rfl) sizeRT ?_
  simp [wpList, bodyPostS, results, Try.results59, Act.put]
set_option maxRecDepth 100000 in
theorem iwrite_ok (w : World) (b : Nat) (p : XP) (S : List Nat) (l : Bs) (hp : p.Ok) (hbS : b ∈ S) (h : XsAt w b 72 p S ⟨l, none⟩) (ad : Option Addr) (nd cd : Nat) (data : Bs) (hS : Sl w ad nd cd data) (hne : ∀ x, ad = some x → nd ≠ 0 → x.block ≠ b) (_hSl : ∀ k ∈ S, k < w.heap.size) :
    Calls Try.prog 42 #[.pointer (some ⟨b, 0, none⟩), .slice ad nd cd] w fun e w' => e = .returned (.agg #[.int .i64 nd, .slice ad nd cd, .bool true, .bool false]) ∧ XsAt w' b 72 p S ⟨l ++ data, none⟩ ∧ Fr [b] w w' := by
  have hmf : ∀ (fn : Fn) (first cap : Array Value) (w : World), (Instr.makeFunc fn first cap).run Try.prog w = .ok (.func fn first cap) w := fun _ _ _ _ => rfl
  have f1 : Fr [] w (w.alloc (.cells #[.int .i64 0, .slice none 0 0, .bool false, .bool false] 32)) := (Fr.refl _ _).alloc _
  have B1 : Hid ((w.alloc (.cells #[.int .i64 0, .slice none 0 0, .bool false, .bool false] 32)).heap[w.heap.size]? = some (.cells #[.int .i64 0, .slice none 0 0, .bool false, .bool false] 32 (0, 0))) := Go.heap_alloc_new w _
  have hbw := h.lt
  have H1 := Lib.hid ((h.more (S' := w.heap.size :: S) (fun k hk => by rcases List.mem_cons.1 hk with e | hk; exact .inr (by omega); exact .inl hk)).keep f1 (by simp) (by simp))
  have hbS' : b ∈ w.heap.size :: S := by simp [hbS]
  have S1 := Lib.hid (hS.keep0 f1)
  clear h hS
  go_enter_defers Try.func42, Try.ntmps42
  go_wp2_with fail
  generalize w.alloc (.cells #[.int .i64 0, .slice none 0 0, .bool false, .bool false] 32) = w1 at f1 B1 H1 S1 ⊢
  refine (shkWrite_any w1 b p (w.heap.size :: S) l hp hbS' H1.out ad nd cd data S1.out hne).mono ?_
  rintro e w2 ⟨rfl, X2, f2⟩
  have HX2 := Lib.hid X2
  have B2 : Hid (w2.heap[w.heap.size]? = some (.cells #[.int .i64 0, .slice none 0 0, .bool false, .bool false] 32 (0, 0))) := f2.obj B1.out (by simp; omega)
  clear X2 B1
  go_wp2_with (refine wpList_store_bits rfl _ _ _ rfl (w.heap.size) rfl 32 #[.int .i64 (nd : Int), .slice ad nd cd, .bool true, .bool false] #[.int .i64 0, .slice none 0 0, .bool false, .bool false] rfl B2.out rfl (by intro v hv; simp at hv; rcases hv with rfl | rfl | rfl | rfl <;> rfl) sizeRT ?_; refine Hid.out ?_)
  show wpList _ _ _ _ _ _
  have G9 := Lib.hid (setRow_heap _ _ _ (#[.int .i64 (nd : Int), .slice ad nd cd, .bool true, .bool false] : Array Value) _ _ B2.out)
  have f9 : Fr [w.heap.size] w2 (w2.setRow (w.heap.size) #[.int .i64 (nd : Int), .slice ad nd cd, .bool true, .bool false]) := (Fr.refl _ _).setRow _ _ (.inr (by simp))
  generalize w2.setRow (w.heap.size) #[.int .i64 (nd : Int), .slice ad nd cd, .bool true, .bool false] = w9 at G9 f9 ⊢
  go_wp2_with fail
  refine leaves_cons (f := 59) (args := #[.pointer (some ⟨w.heap.size, 0, none⟩)]) (by simp) (by simp [go_sem]) ?_
  refine (catch_idle ⟨w.heap.size, 0, none⟩ _).mono ?_
  rintro e u' w'' ⟨rfl, rfl, rfl⟩
  refine ⟨_, results_cell_row rfl _ _ w.heap.size _ _ _ _ rfl G9.out Try.underlying32 rfl sizeRT, rfl, ?_, ?_⟩
  · exact (HX2.out.keep f9 (by simp; omega) (fun k hk => .inl (by simp at hk; simp [hk]))).more (fun k hk => .inl (by simp [hk]))
  · exact Fr_trans_new ((f1.mono (by simp)).trans f2) f9 (by simp)
set_option maxRecDepth 100000 in
theorem iwrite_pan (w : World) (b : Nat) (p : XP) (S : List Nat) (l : Bs) (k : Nat) (hp : p.Ok) (hbS : b ∈ S) (h : XsAt w b 72 p S ⟨l, some k⟩) (ad : Option Addr) (nd cd : Nat) (_hSl : ∀ k ∈ S, k < w.heap.size) :
    Calls Try.prog 42 #[.pointer (some ⟨b, 0, none⟩), .slice ad nd cd] w fun e w' => e = .returned (.agg #[.int .i64 0, .slice none 0 0, .bool false, .bool true]) ∧ XsAt w' b 72 p S ⟨l, some k⟩ ∧ Fr [b] w w' := by
  have hmf : ∀ (fn : Fn) (first cap : Array Value) (w : World), (Instr.makeFunc fn first cap).run Try.prog w = .ok (.func fn first cap) w := fun _ _ _ _ => rfl
  have f1 : Fr [] w (w.alloc (.cells #[.int .i64 0, .slice none 0 0, .bool false, .bool false] 32)) := (Fr.refl _ _).alloc _
  have B1 : Hid ((w.alloc (.cells #[.int .i64 0, .slice none 0 0, .bool false, .bool false] 32)).heap[w.heap.size]? = some (.cells #[.int .i64 0, .slice none 0 0, .bool false, .bool false] 32 (0, 0))) := Go.heap_alloc_new w _
  have hbw := h.lt
  have H1 := Lib.hid ((h.more (S' := w.heap.size :: S) (fun k hk => by rcases List.mem_cons.1 hk with e | hk; exact .inr (by omega); exact .inl hk)).keep f1 (by simp) (by simp))
  have hbS' : b ∈ w.heap.size :: S := by simp [hbS]
  clear h
  go_enter_defers Try.func42, Try.ntmps42
  go_wp2_with fail
  generalize w.alloc (.cells #[.int .i64 0, .slice none 0 0, .bool false, .bool false] 32) = w1 at f1 B1 H1 ⊢
  refine (shkWrite_pan w1 b p (w.heap.size :: S) l k hp hbS' H1.out ad nd cd).mono ?_
  rintro e w2 ⟨⟨v, rfl⟩, X2, f2⟩
  have HX2 := Lib.hid X2
  have B2 : Hid (w2.heap[w.heap.size]? = some (.cells #[.int .i64 0, .slice none 0 0, .bool false, .bool false] 32 (0, 0))) := f2.obj B1.out (by simp; omega)
  clear X2 B1
  go_wp2_with fail
  refine leaves_cons (f := 59) (args := #[.pointer (some ⟨w.heap.size, 0, none⟩)]) (by simp) (by simp [go_sem]) ?_
  refine (catch_pan w.heap.size _ _ _ B2.out).mono ?_
  rintro e u' w9 ⟨rfl, rfl, rfl⟩
  have G9 := setRow_heap _ _ _ (#[.int .i64 0, .slice none 0 0, .bool false, .bool true] : Array Value) _ _ B2.out
  have f9 : Fr [w.heap.size] w2 (w2.setRow (w.heap.size) #[.int .i64 0, .slice none 0 0, .bool false, .bool true]) := (Fr.refl _ _).setRow _ _ (.inr (by simp))
  refine ⟨_, results_cell_row rfl _ _ w.heap.size _ _ _ _ rfl G9 Try.underlying32 rfl sizeRT, rfl, ?_, ?_⟩
  · exact (HX2.out.keep f9 (by simp; omega) (fun k hk => .inl (by simp at hk; simp [hk]))).more (fun k hk => .inl (by simp [hk]))
  · exact Fr_trans_new ((f1.mono (by simp)).trans f2) f9 (by simp)
end Go.Proofs.Ytkijnpjefccepaa
end

section
namespace Go.Sha
open Go.RowKit
theorem set4X {w : World} {x T : Nat} {u0 u1 u2 u3 : Value} (h : w.heap[x]? = some (.cells #[u0, u1, u2, u3] T (0, 0))) (v0 v1 v2 v3 : Value) :
    ((((w.setCell ⟨x, 0, none⟩ v0).setCell ⟨x, 1, none⟩ v1).setCell ⟨x, 2, none⟩ v2).setCell ⟨x, 3, none⟩ v3).heap[x]? = some (.cells #[v0, v1, v2, v3] T (0, 0)) ∧ Fr [x] w ((((w.setCell ⟨x, 0, none⟩ v0).setCell ⟨x, 1, none⟩ v1).setCell ⟨x, 2, none⟩ v2).setCell ⟨x, 3, none⟩ v3) := by
  refine ⟨?_, ((((Fr.refl _ _).setCell _ _ (.inr (by simp))).setCell _ _ (.inr (by simp))).setCell _ _ (.inr (by simp))).setCell _ _ (.inr (by simp))⟩
  rw [Go.Sha.heap_setCell_same (Go.Sha.heap_setCell_same (Go.Sha.heap_setCell_same (Go.Sha.heap_setCell_same h v0) v1) v2) v3]
  simp
end Go.Sha
namespace Go.Proofs.Ytkijnpjefccepaa
open Go.ChangeShapes Go.WideShapes Go.ChangeAt Go.RowKit Go.Sha
theorem Fr_two_new {b g : Nat} {w w5 w6 : World} (h : Fr [] w w5) (k : Fr [b, g] w5 w6) (hg : w.heap.size ≤ g) : Fr [b] w w6 :=
  ⟨k.os.trans h.os, k.tape.trans h.tape, k.output.trans h.output, Nat.le_trans h.size k.size, fun i hi hs => (k.block i (Nat.lt_of_lt_of_le hi h.size) (fun hx => by simp at hx hs; rcases hx with hx | hx; exact hs hx; omega)).trans (h.block i hi (by simp))⟩

set_option maxRecDepth 100000 in
set_option maxHeartbeats 600000 in
theorem xact_reset (w : World) (base hb : Nat) (kind : Int) (p : XP) (q : NC) (all saved : List XS) (bs : List Nat) (ss : List (Nat × Nat)) (a1 a2 : Option Addr) (c1 c2 : Nat) (S : List Nat) (ad : Option Addr) (nd cd : Nat) (data : Bs) (k att pick : Int) (h : XI 54 49 22 72 w base hb kind p q all saved bs ss a1 c1 a2 c2 S) (hS : Sl w ad nd cd data) (hnd : nd ≤ 140737488351232) (hall : all.length ≤ 3000000000000) (hh : p.Hd) (hkm : k % 10 = ((2 : Nat) : Int)) :
    Calls Try.prog 30 #[.pointer (some ⟨hb, 0, none⟩), .agg #[.int .i64 k, .int .i64 att, .int .i64 pick, .slice ad nd cd]] w (XActR base hb kind p q (stepX p all saved ⟨k, att, pick, data⟩) S w) := by
  have hA0 := B1.start h hS k att pick
  obtain ⟨i, hi⟩ : ∃ i, i = ix att all.length := ⟨_, rfl⟩
  have hil : i < all.length := by rw [hi]; exact ix_lt _ _ h.pos
  have HIX : Hid (att % ((all.length : Nat) : Int) = (i : Int)) := by rw [hi]; exact ix_int _ _ h.pos
  have HII := Lib.hid hi
  have HKM : Hid (k % 10 = ((2 : Nat) : Int)) := hkm
  clear hi hkm
  obtain ⟨ga, hga, hac, hacm, _⟩ := XI_row h
  obtain ⟨b, hb0⟩ : ∃ b, b = bs.getD i 0 := ⟨_, rfl⟩
  obtain ⟨n, hnl⟩ : ∃ n, n = all.length := ⟨_, rfl⟩
  have hrt := Lib.hid h.rt
  have hapos := h.pos
  have HBB : Hid (bs.getD i 0 = b) := hb0.symm
  have HNL : Hid (all.length = n) := hnl.symm
  have HGA := Lib.hid hga
  rw [← hnl] at hil hac hapos hall HIX
  have hin : (i : Int) < (n : Int) := by omega
  have HIL : Hid (i < all.length) := by show _ < _; rw [HNL.out]; exact hil
  clear hb0 hnl
  have t0 : ((2 : Int) == 0) = false := by decide
  have t1 : ((2 : Int) == 1) = false := by decide
  have t2 : ((2 : Int) == 2) = true := by decide
  subst hga
  have HH := Lib.hid h
  have HS := Lib.hid hS
  clear h hS
  go_enter Try.func30, Try.ntmps30
  go_wp2_with fail
  have R0 := hA0.keep (Fr.refl _ _).drew
  go_region_held3 (fun w' => w'.cell? ⟨hb, 3, none⟩ = some (.slice (some ⟨ga, 0, none⟩) n c1) ∧ w'.cell? ⟨w.heap.size, 1, none⟩ = some (.int .i64 att) ∧ w'.cell? ⟨w.heap.size, 3, none⟩ = some (.slice ad nd cd) ∧ w'.cell? ⟨ga, i, none⟩ = some (.pointer (some ⟨b, 0, none⟩)) ∧ B1 w base hb kind p q all saved bs ss (some ⟨ga, 0, none⟩) a2 c1 c2 S ad nd cd data k att pick w')
    (first | (exact R0.held HIL.out rfl HBB.out HNL.out) | (exact (R0.keep f5).held HIL.out rfl HBB.out HNL.out) | (go_keep))
    (first | (go_at_call 36; refine (place_nat att n i _ (by omega) (by omega) HIX.out).mono ?_; rintro e w4 ⟨rfl, rfl⟩) | (go_at_call 40; refine (copied_n ad nd cd data _ R0.sl (by omega)).mono ?_; rintro e w5 ⟨ao, co, rfl, O5, f5⟩))
  have R5 := R0.keep f5
  have q0 : w5.cell? ⟨w.heap.size, 0, none⟩ = some (.int .i64 k) := by rw [cell_of R5.b1]; rfl
  have OW5 : Hid (Ow w5 (w.heap.size + 1 + 1) 5 ao co data) := by
    have e5 := O5
    rw [show (((w.alloc (.cells #[.int .i64 k, .int .i64 att, .int .i64 pick, .slice ad nd cd] 27)).alloc (.cells #[.int .i64 0, .slice none 0 0, .bool false, .bool false] 32)).drew).heap.size = w.heap.size + 1 + 1 by simp [World.drew]] at e5
    exact e5
  have H5 := Lib.hid R5
  clear O5 R5 R0 hA0 f5
  go_wp2_with fail
  refine (place_nat k 10 2 _ (by decide) (by decide) HKM.out).mono ?_
  rintro e w5 ⟨rfl, rfl⟩
  clear q0
  obtain ⟨xi, hxi⟩ : ∃ xi, xi = all.getD i ⟨[], none⟩ := ⟨_, rfl⟩
  have HXI := Lib.hid hxi
  have hs5 : Hid (XsAt w5 b 72 p S xi) := by have := H5.out.hi.hs i HIL.out; rw [HBB.out, ← hxi] at this; exact this
  clear hxi
  have hbS : b ∈ S := by rw [← HBB.out]; exact HH.out.bsS _ (getD_mem (by rw [HH.out.bl]; exact HIL.out))
  have hbw : b < w.heap.size := HH.out.lt_of hbS
  have HBS := Lib.hid hbS
  clear hbS
  have hb5 : w.heap.size + 1 + 1 ≤ w5.heap.size := by have := (Array.getElem?_eq_some_iff.1 H5.out.b2).1; omega
  go_wp2_with fail
  refine (shkReset_any w5 b p S xi hrt.out hh HBS.out hs5.out).mono ?_
  rintro e w6 ⟨rfl, D6, f6⟩
  have HD6 := Lib.hid D6
  clear D6
  have G6 : Hid (w6.heap[w.heap.size + 1]? = some (.cells #[.int .i64 0, .slice none 0 0, .bool false, .bool false] 32 (0, 0))) := f6.obj H5.out.b2 (by simp; omega)
  go_wp2_with (refine wpList_store_bits rfl _ _ _ rfl (w.heap.size + 1) rfl 32 #[.int .i64 0, .slice none 0 0, .bool false, .bool false] #[.int .i64 0, .slice none 0 0, .bool false, .bool false] rfl G6.out rfl (by intro v hv; simp at hv; rcases hv with rfl | rfl | rfl | rfl <;> rfl) sizeRT ?_; refine Hid.out ?_)
  show wpList _ _ _ _ _ _
  have G9 := Lib.hid (setRow_heap _ _ _ (#[.int .i64 0, .slice none 0 0, .bool false, .bool false] : Array Value) _ _ G6.out)
  have f9 : Fr [w.heap.size + 1] w6 (w6.setRow (w.heap.size + 1) #[.int .i64 0, .slice none 0 0, .bool false, .bool false]) := (Fr.refl _ _).setRow _ _ (.inr (by simp))
  generalize w6.setRow (w.heap.size + 1) #[.int .i64 0, .slice none 0 0, .bool false, .bool false] = w9 at G9 f9 ⊢
  go_wp2_with fail
  refine bodyPost_ret (v := .agg #[.int .i64 0, .slice none 0 0, .bool false, .bool false]) (results_cell_row rfl _ _ (w.heap.size + 1) _ _ _ _ rfl G9.out Try.underlying32 rfl sizeRT) rfl ?_
  have F9 : Fr S w w9 := Fr_trans_new ((H5.out.fr.mono (by simp)).trans (f6.mono (fun x _ hx => by simp at hx; rw [hx]; exact HBS.out)) : Fr S w w6) f9 (by simp)
  have K9 : XI 54 49 22 72 w9 base hb kind p q (all.set i (⟨p.hd, none⟩)) saved bs ss (some ⟨ga, 0, none⟩) c1 a2 c2 S := XI_keepNew (H5.out.hi.upd i HIL.out (⟨p.hd, none⟩) (by rw [HBB.out]; exact f6) (by rw [HBB.out]; exact HD6.out)) f9 (newOkX HH.out (fun x hx => .inl hx) G6.out) (newB HH.out)
  have e9 : ix k 10 = 2 := by unfold ix; have := HKM.out; omega
  refine ⟨none, 0, S, ?_, ?_, ?_, F9, fun x hx => .inl hx, fun y hy => by cases hy⟩
  · simp only [stepX, e9]; rfl
  · simp only [stepX, e9]; exact Ow.nil _ _ _
  · simp only [stepX, e9]; exact ⟨_, _, _, _, _, _, by rw [← HII.out]; exact K9⟩

set_option maxRecDepth 100000 in
set_option maxHeartbeats 600000 in
theorem xact_write (w : World) (base hb : Nat) (kind : Int) (p : XP) (q : NC) (all saved : List XS) (bs : List Nat) (ss : List (Nat × Nat)) (a1 a2 : Option Addr) (c1 c2 : Nat) (S : List Nat) (ad : Option Addr) (nd cd : Nat) (data : Bs) (k att pick : Int) (h : XI 54 49 22 72 w base hb kind p q all saved bs ss a1 c1 a2 c2 S) (hS : Sl w ad nd cd data) (hnd : nd ≤ 140737488351232) (hall : all.length ≤ 3000000000000) (hkm : k % 10 = ((0 : Nat) : Int)) :
    Calls Try.prog 30 #[.pointer (some ⟨hb, 0, none⟩), .agg #[.int .i64 k, .int .i64 att, .int .i64 pick, .slice ad nd cd]] w (XActR base hb kind p q (stepX p all saved ⟨k, att, pick, data⟩) S w) := by
  have hA0 := B1.start h hS k att pick
  obtain ⟨i, hi⟩ : ∃ i, i = ix att all.length := ⟨_, rfl⟩
  have hil : i < all.length := by rw [hi]; exact ix_lt _ _ h.pos
  have HIX : Hid (att % ((all.length : Nat) : Int) = (i : Int)) := by rw [hi]; exact ix_int _ _ h.pos
  have HII := Lib.hid hi
  have HKM : Hid (k % 10 = ((0 : Nat) : Int)) := hkm
  clear hi hkm
  obtain ⟨ga, hga, hac, hacm, _⟩ := XI_row h
  obtain ⟨b, hb0⟩ : ∃ b, b = bs.getD i 0 := ⟨_, rfl⟩
  obtain ⟨n, hnl⟩ : ∃ n, n = all.length := ⟨_, rfl⟩
  have hrt := Lib.hid h.rt
  have hapos := h.pos
  have HBB : Hid (bs.getD i 0 = b) := hb0.symm
  have HNL : Hid (all.length = n) := hnl.symm
  have HGA := Lib.hid hga
  rw [← hnl] at hil hac hapos hall HIX
  have hin : (i : Int) < (n : Int) := by omega
  have HIL : Hid (i < all.length) := by show _ < _; rw [HNL.out]; exact hil
  clear hb0 hnl
  have t0 : ((0 : Int) == 0) = true := by decide
  subst hga
  have HH := Lib.hid h
  have HS := Lib.hid hS
  clear h hS
  go_enter Try.func30, Try.ntmps30
  go_wp2_with fail
  have R0 := hA0.keep (Fr.refl _ _).drew
  go_region_held3 (fun w' => w'.cell? ⟨hb, 3, none⟩ = some (.slice (some ⟨ga, 0, none⟩) n c1) ∧ w'.cell? ⟨w.heap.size, 1, none⟩ = some (.int .i64 att) ∧ w'.cell? ⟨w.heap.size, 3, none⟩ = some (.slice ad nd cd) ∧ w'.cell? ⟨ga, i, none⟩ = some (.pointer (some ⟨b, 0, none⟩)) ∧ B1 w base hb kind p q all saved bs ss (some ⟨ga, 0, none⟩) a2 c1 c2 S ad nd cd data k att pick w')
    (first | (exact R0.held HIL.out rfl HBB.out HNL.out) | (exact (R0.keep f5).held HIL.out rfl HBB.out HNL.out) | (go_keep))
    (first | (go_at_call 36; refine (place_nat att n i _ (by omega) (by omega) HIX.out).mono ?_; rintro e w4 ⟨rfl, rfl⟩) | (go_at_call 40; refine (copied_n ad nd cd data _ R0.sl (by omega)).mono ?_; rintro e w5 ⟨ao, co, rfl, O5, f5⟩))
  have R5 := R0.keep f5
  have q0 : w5.cell? ⟨w.heap.size, 0, none⟩ = some (.int .i64 k) := by rw [cell_of R5.b1]; rfl
  have OW5 : Hid (Ow w5 (w.heap.size + 1 + 1) 5 ao co data) := by
    have e5 := O5
    rw [show (((w.alloc (.cells #[.int .i64 k, .int .i64 att, .int .i64 pick, .slice ad nd cd] 27)).alloc (.cells #[.int .i64 0, .slice none 0 0, .bool false, .bool false] 32)).drew).heap.size = w.heap.size + 1 + 1 by simp [World.drew]] at e5
    exact e5
  have H5 := Lib.hid R5
  clear O5 R5 R0 hA0 f5
  go_wp2_with fail
  refine (place_nat k 10 0 _ (by decide) (by decide) HKM.out).mono ?_
  rintro e w5 ⟨rfl, rfl⟩
  clear q0
  obtain ⟨xi, hxi⟩ : ∃ xi, xi = all.getD i ⟨[], none⟩ := ⟨_, rfl⟩
  have HXI := Lib.hid hxi
  have hs5 : Hid (XsAt w5 b 72 p S xi) := by have := H5.out.hi.hs i HIL.out; rw [HBB.out, ← hxi] at this; exact this
  clear hxi
  have hbS : b ∈ S := by rw [← HBB.out]; exact HH.out.bsS _ (getD_mem (by rw [HH.out.bl]; exact HIL.out))
  have hbw : b < w.heap.size := HH.out.lt_of hbS
  have HBS := Lib.hid hbS
  clear hbS
  have hb5 : w.heap.size + 1 + 1 ≤ w5.heap.size := by have := (Array.getElem?_eq_some_iff.1 H5.out.b2).1; omega
  go_wp2_with fail
  have hSl : ∀ k ∈ S, k < w5.heap.size := fun k hk => by have := HH.out.lt_of hk; omega
  obtain ⟨l, rdv⟩ := xi
  cases rdv with
  | none =>
    refine (iwrite_ok w5 b p S l hrt.out HBS.out hs5.out ao nd co data (OW5.out.sl_at HS.out.len) (fun x hx hn => by subst hx; have := OW5.out.block.2.2.1; omega) hSl).mono ?_
    rintro e w6 ⟨rfl, D6, f6⟩
    have HD6 := Lib.hid D6
    clear D6
    have G6 : Hid (w6.heap[w.heap.size + 1]? = some (.cells #[.int .i64 0, .slice none 0 0, .bool false, .bool false] 32 (0, 0))) := f6.obj H5.out.b2 (by simp; omega)
    go_wp2_with (refine wpList_store_bits rfl _ _ _ rfl (w.heap.size + 1) rfl 32 #[.int .i64 (nd : Int), .slice ao nd co, .bool true, .bool false] #[.int .i64 0, .slice none 0 0, .bool false, .bool false] rfl G6.out rfl (by intro v hv; simp at hv; rcases hv with rfl | rfl | rfl | rfl <;> rfl) sizeRT ?_; refine Hid.out ?_)
    show wpList _ _ _ _ _ _
    have G9 := Lib.hid (setRow_heap _ _ _ (#[.int .i64 (nd : Int), .slice ao nd co, .bool true, .bool false] : Array Value) _ _ G6.out)
    have f9 : Fr [w.heap.size + 1] w6 (w6.setRow (w.heap.size + 1) #[.int .i64 (nd : Int), .slice ao nd co, .bool true, .bool false]) := (Fr.refl _ _).setRow _ _ (.inr (by simp))
    generalize w6.setRow (w.heap.size + 1) #[.int .i64 (nd : Int), .slice ao nd co, .bool true, .bool false] = w9 at G9 f9 ⊢
    go_wp2_with fail
    refine bodyPost_ret (v := .agg #[.int .i64 (nd : Int), .slice ao nd co, .bool true, .bool false]) (results_cell_row rfl _ _ (w.heap.size + 1) _ _ _ _ rfl G9.out Try.underlying32 rfl sizeRT) rfl ?_
    have F9 : Fr S w w9 := Fr_trans_new ((H5.out.fr.mono (by simp)).trans (f6.mono (fun x _ hx => by simp at hx; rw [hx]; exact HBS.out)) : Fr S w w6) f9 (by simp)
    have K9 : XI 54 49 22 72 w9 base hb kind p q (all.set i (⟨l ++ data, none⟩)) saved bs ss (some ⟨ga, 0, none⟩) c1 a2 c2 S := XI_keepNew (H5.out.hi.upd i HIL.out (⟨l ++ data, none⟩) (by rw [HBB.out]; exact f6) (by rw [HBB.out]; exact HD6.out)) f9 (newOkX HH.out (fun x hx => .inl hx) G6.out) (newB HH.out)
    have e9 : ix k 10 = 0 := by unfold ix; have := HKM.out; omega
    have O9 : Ow w9 (w.heap.size + 1 + 1) 5 ao co data := (OW5.out.keep f6 (fun x hx => by simp; omega)).keep f9 (fun x hx => by simp; omega)
    have ex : (all.getD (ix att all.length) ⟨[], none⟩) = ⟨l, none⟩ := by rw [← HII.out, ← HXI.out]
    refine ⟨ao, co, S, ?_, ?_, ?_, F9, fun x hx => .inl hx, fun y hy hm => ?_⟩
    · simp only [stepX, e9, ex]; rw [HS.out.len]
    · simp only [stepX, e9, ex]; exact O9.mono (by omega)
    · simp only [stepX, e9, ex]; exact ⟨_, _, _, _, _, _, by rw [← HII.out]; exact K9⟩
    · subst hy
      have := O9.block.2.2.1
      have := HH.out.lt_of hm
      omega
  | some kr =>
    refine (iwrite_pan w5 b p S l kr hrt.out HBS.out hs5.out ao nd co hSl).mono ?_
    rintro e w6 ⟨rfl, D6, f6⟩
    have HD6 := Lib.hid D6
    clear D6
    have G6 : Hid (w6.heap[w.heap.size + 1]? = some (.cells #[.int .i64 0, .slice none 0 0, .bool false, .bool false] 32 (0, 0))) := f6.obj H5.out.b2 (by simp; omega)
    go_wp2_with (refine wpList_store_bits rfl _ _ _ rfl (w.heap.size + 1) rfl 32 #[.int .i64 0, .slice none 0 0, .bool false, .bool true] #[.int .i64 0, .slice none 0 0, .bool false, .bool false] rfl G6.out rfl (by intro v hv; simp at hv; rcases hv with rfl | rfl | rfl | rfl <;> rfl) sizeRT ?_; refine Hid.out ?_)
    show wpList _ _ _ _ _ _
    have G9 := Lib.hid (setRow_heap _ _ _ (#[.int .i64 0, .slice none 0 0, .bool false, .bool true] : Array Value) _ _ G6.out)
    have f9 : Fr [w.heap.size + 1] w6 (w6.setRow (w.heap.size + 1) #[.int .i64 0, .slice none 0 0, .bool false, .bool true]) := (Fr.refl _ _).setRow _ _ (.inr (by simp))
    generalize w6.setRow (w.heap.size + 1) #[.int .i64 0, .slice none 0 0, .bool false, .bool true] = w9 at G9 f9 ⊢
    go_wp2_with fail
    refine bodyPost_ret (v := .agg #[.int .i64 0, .slice none 0 0, .bool false, .bool true]) (results_cell_row rfl _ _ (w.heap.size + 1) _ _ _ _ rfl G9.out Try.underlying32 rfl sizeRT) rfl ?_
    have F9 : Fr S w w9 := Fr_trans_new ((H5.out.fr.mono (by simp)).trans (f6.mono (fun x _ hx => by simp at hx; rw [hx]; exact HBS.out)) : Fr S w w6) f9 (by simp)
    have K9 : XI 54 49 22 72 w9 base hb kind p q (all.set i (all.getD i ⟨[], none⟩)) saved bs ss (some ⟨ga, 0, none⟩) c1 a2 c2 S := XI_keepNew (H5.out.hi.upd i HIL.out (all.getD i ⟨[], none⟩) (by rw [HBB.out]; exact f6) (by rw [HBB.out, ← HXI.out]; exact HD6.out)) f9 (newOkX HH.out (fun x hx => .inl hx) G6.out) (newB HH.out)
    have e9 : ix k 10 = 0 := by unfold ix; have := HKM.out; omega
    have ex : (all.getD (ix att all.length) ⟨[], none⟩) = ⟨l, some kr⟩ := by rw [← HII.out, ← HXI.out]
    refine ⟨none, 0, S, ?_, ?_, ?_, F9, fun x hx => .inl hx, fun y hy => by cases hy⟩
    · simp only [stepX, e9, ex]; rfl
    · simp only [stepX, e9, ex]; exact Ow.nil _ _ _
    · simp only [stepX, e9, ex]; exact ⟨_, _, _, _, _, _, by have := K9; rw [set_getD] at this; exact this⟩

set_option maxRecDepth 100000 in
set_option maxHeartbeats 2000000 in
theorem xact_read (w : World) (base hb : Nat) (kind : Int) (p : XP) (q : NC) (all saved : List XS) (bs : List Nat) (ss : List (Nat × Nat)) (a1 a2 : Option Addr) (c1 c2 : Nat) (S : List Nat) (ad : Option Addr) (nd cd : Nat) (data : Bs) (k att pick : Int) (h : XI 54 49 22 72 w base hb kind p q all saved bs ss a1 c1 a2 c2 S) (hS : Sl w ad nd cd data) (hnd : nd ≤ 140737488351232) (hall : all.length ≤ 3000000000000) (hkm : k % 10 = ((1 : Nat) : Int)) :
    Calls Try.prog 30 #[.pointer (some ⟨hb, 0, none⟩), .agg #[.int .i64 k, .int .i64 att, .int .i64 pick, .slice ad nd cd]] w (XActR base hb kind p q (stepX p all saved ⟨k, att, pick, data⟩) S w) := by
  have hA0 := B1.start h hS k att pick
  obtain ⟨i, hi⟩ : ∃ i, i = ix att all.length := ⟨_, rfl⟩
  have hil : i < all.length := by rw [hi]; exact ix_lt _ _ h.pos
  have HIX : Hid (att % ((all.length : Nat) : Int) = (i : Int)) := by rw [hi]; exact ix_int _ _ h.pos
  have HII := Lib.hid hi
  have HKM : Hid (k % 10 = ((1 : Nat) : Int)) := hkm
  clear hi hkm
  obtain ⟨ga, hga, hac, hacm, _⟩ := XI_row h
  obtain ⟨b, hb0⟩ : ∃ b, b = bs.getD i 0 := ⟨_, rfl⟩
  obtain ⟨n, hnl⟩ : ∃ n, n = all.length := ⟨_, rfl⟩
  have hrt := Lib.hid h.rt
  have hapos := h.pos
  have HBB : Hid (bs.getD i 0 = b) := hb0.symm
  have HNL : Hid (all.length = n) := hnl.symm
  have HGA := Lib.hid hga
  rw [← hnl] at hil hac hapos hall HIX
  have hin : (i : Int) < (n : Int) := by omega
  have HIL : Hid (i < all.length) := by show _ < _; rw [HNL.out]; exact hil
  clear hb0 hnl
  have t0 : ((1 : Int) == 0) = false := by decide
  have t1 : ((1 : Int) == 1) = true := by decide
  subst hga
  have HH := Lib.hid h
  have HS := Lib.hid hS
  clear h hS
  go_enter Try.func30, Try.ntmps30
  go_wp2_with fail
  have R0 := hA0.keep (Fr.refl _ _).drew
  go_region_held3 (fun w' => w'.cell? ⟨hb, 3, none⟩ = some (.slice (some ⟨ga, 0, none⟩) n c1) ∧ w'.cell? ⟨w.heap.size, 1, none⟩ = some (.int .i64 att) ∧ w'.cell? ⟨w.heap.size, 3, none⟩ = some (.slice ad nd cd) ∧ w'.cell? ⟨ga, i, none⟩ = some (.pointer (some ⟨b, 0, none⟩)) ∧ B1 w base hb kind p q all saved bs ss (some ⟨ga, 0, none⟩) a2 c1 c2 S ad nd cd data k att pick w')
    (first | (exact R0.held HIL.out rfl HBB.out HNL.out) | (exact (R0.keep f5).held HIL.out rfl HBB.out HNL.out) | (go_keep))
    (first | (go_at_call 36; refine (place_nat att n i _ (by omega) (by omega) HIX.out).mono ?_; rintro e w4 ⟨rfl, rfl⟩) | (go_at_call 40; refine (copied_n ad nd cd data _ R0.sl (by omega)).mono ?_; rintro e w5 ⟨ao, co, rfl, O5, f5⟩))
  have R5 := R0.keep f5
  have q0 : w5.cell? ⟨w.heap.size, 0, none⟩ = some (.int .i64 k) := by rw [cell_of R5.b1]; rfl
  have OW5 : Hid (Ow w5 (w.heap.size + 1 + 1) 5 ao co data) := by
    have e5 := O5
    rw [show (((w.alloc (.cells #[.int .i64 k, .int .i64 att, .int .i64 pick, .slice ad nd cd] 27)).alloc (.cells #[.int .i64 0, .slice none 0 0, .bool false, .bool false] 32)).drew).heap.size = w.heap.size + 1 + 1 by simp [World.drew]] at e5
    exact e5
  have H5 := Lib.hid R5
  clear O5 R5 R0 hA0 f5
  go_wp2_with fail
  refine (place_nat k 10 1 _ (by decide) (by decide) HKM.out).mono ?_
  rintro e w5 ⟨rfl, rfl⟩
  clear q0
  obtain ⟨xi, hxi⟩ : ∃ xi, xi = all.getD i ⟨[], none⟩ := ⟨_, rfl⟩
  have HXI := Lib.hid hxi
  have hs5 : Hid (XsAt w5 b 72 p S xi) := by have := H5.out.hi.hs i HIL.out; rw [HBB.out, ← hxi] at this; exact this
  clear hxi
  have hbS : b ∈ S := by rw [← HBB.out]; exact HH.out.bsS _ (getD_mem (by rw [HH.out.bl]; exact HIL.out))
  have hbw : b < w.heap.size := HH.out.lt_of hbS
  have HBS := Lib.hid hbS
  clear hbS
  have hb5 : w.heap.size + 1 + 1 ≤ w5.heap.size := by have := (Array.getElem?_eq_some_iff.1 H5.out.b2).1; omega
  go_wp2_with fail
  by_cases hz : nd = 0
  · subst hz
    refine (shkRead0_any w5 b p S xi hrt.out HBS.out hs5.out ao co).mono ?_
    rintro e w6 ⟨rfl, D6, f6⟩
    have HD6 := Lib.hid D6
    clear D6
    have G6 : Hid (w6.heap[w.heap.size + 1]? = some (.cells #[.int .i64 0, .slice none 0 0, .bool false, .bool false] 32 (0, 0))) := f6.obj H5.out.b2 (by simp; omega)
    have hco : (0 : Int) ≤ (co : Int) := by omega
    have sb : ∀ i, w6.frozen? ⟨w.heap.size + 1, i, none⟩ = false := fun i => by simp [World.frozen?, G6.out]
    have s00 := sb 0
    have s01 := sb 1
    have s02 := sb 2
    have s03 := sb 3
    clear sb
    have r0 : w6.cell? ⟨w.heap.size + 1, 0, none⟩ = some (.int .i64 0) := (cell_of G6.out 0).trans rfl
    have r1 : w6.cell? ⟨w.heap.size + 1, 1, none⟩ = some (.slice none 0 0) := (cell_of G6.out 1).trans rfl
    have r2 : w6.cell? ⟨w.heap.size + 1, 2, none⟩ = some (.bool false) := (cell_of G6.out 2).trans rfl
    have r3 : w6.cell? ⟨w.heap.size + 1, 3, none⟩ = some (.bool false) := (cell_of G6.out 3).trans rfl
    go_wp2_with fail
    go_region
    have G9 : Hid (((((w6.setCell ⟨w.heap.size + 1, 0, none⟩ (.int .i64 0)).setCell ⟨w.heap.size + 1, 1, none⟩ (.slice ao 0 co)).setCell ⟨w.heap.size + 1, 2, none⟩ (.bool true)).setCell ⟨w.heap.size + 1, 3, none⟩ (.bool false)).drew.heap[w.heap.size + 1]? = some (.cells #[.int .i64 0, .slice ao 0 co, .bool true, .bool false] 32 (0, 0))) := (set4X G6.out (.int .i64 0) (.slice ao 0 co) (.bool true) (.bool false)).1
    have f9 : Fr [w.heap.size + 1] w6 ((((w6.setCell ⟨w.heap.size + 1, 0, none⟩ (.int .i64 0)).setCell ⟨w.heap.size + 1, 1, none⟩ (.slice ao 0 co)).setCell ⟨w.heap.size + 1, 2, none⟩ (.bool true)).setCell ⟨w.heap.size + 1, 3, none⟩ (.bool false)).drew := (set4X G6.out (.int .i64 0) (.slice ao 0 co) (.bool true) (.bool false)).2.drew
    clear r0 r1 r2 r3 s00 s01 s02 s03
    generalize ((((w6.setCell ⟨w.heap.size + 1, 0, none⟩ (.int .i64 0)).setCell ⟨w.heap.size + 1, 1, none⟩ (.slice ao 0 co)).setCell ⟨w.heap.size + 1, 2, none⟩ (.bool true)).setCell ⟨w.heap.size + 1, 3, none⟩ (.bool false)).drew = w9 at G9 f9 ⊢
    go_wp2_with fail
    refine bodyPost_ret (v := .agg #[.int .i64 0, .slice ao 0 co, .bool true, .bool false]) (results_cell_row rfl _ _ (w.heap.size + 1) _ _ _ _ rfl G9.out Try.underlying32 rfl sizeRT) rfl ?_
    have f9' : Fr [w.heap.size + 1] w6 w9 := f9
    have e9 : ix k 10 = 1 := by unfold ix; have := HKM.out; omega
    have ex : (all.getD (ix att all.length) ⟨[], none⟩) = xi := by rw [← HII.out, ← HXI.out]
    have F9 : Fr S w w9 := Fr_trans_new ((H5.out.fr.mono (by simp)).trans (f6.mono (fun x _ hx => by simp at hx; rw [hx]; exact HBS.out)) : Fr S w w6) f9' (by simp)
    have K9 : XI 54 49 22 72 w9 base hb kind p q (all.set i (xi.read 0)) saved bs ss (some ⟨ga, 0, none⟩) c1 a2 c2 S := XI_keepNew (H5.out.hi.upd i HIL.out (xi.read 0) (by rw [HBB.out]; exact f6) (by rw [HBB.out]; exact HD6.out)) f9' (newOkX HH.out (fun x hx => .inl hx) G6.out) (newB HH.out)
    have O9 : Ow w9 (w.heap.size + 1 + 1) 5 ao co data := (OW5.out.keep f6 (fun x hx => by simp; omega)).keep f9' (fun x hx => by simp; omega)
    have hd0 : data = [] := List.eq_nil_of_length_eq_zero HS.out.len
    have hx0 : xOut p xi 0 = [] := List.eq_nil_of_length_eq_zero (xOut_length _ _ _)
    subst hd0
    refine ⟨ao, co, S, ?_, ?_, ?_, F9, fun x hx => .inl hx, fun y hy hm => ?_⟩
    · simp only [stepX, e9, ex, List.length_nil, hx0]; rfl
    · simp only [stepX, e9, ex, List.length_nil, hx0]; exact O9.mono (by omega)
    · simp only [stepX, e9, ex, List.length_nil]; exact ⟨_, _, _, _, _, _, by rw [← HII.out]; exact K9⟩
    · subst hy
      have := O9.block.2.2.1
      have := HH.out.lt_of hm
      omega
  · obtain ⟨g, cur, hao, hg1, hg2, hg3, hg4, hg5, hg6⟩ := OW5.out.open (by rw [HS.out.len]; omega)
    rw [HS.out.len] at hg3
    subst hao
    have hs5g : Hid (XsAt w5 b 72 p (g :: S) xi) := by
      have e := ((HH.out.hs i HIL.out).more (S' := g :: S) (fun k hk => by rcases List.mem_cons.1 hk with e | hk; exact .inr (by omega); exact .inl hk)).keep H5.out.fr (by simp) (by simp)
      rw [HBB.out, ← HXI.out] at e
      exact e
    have HG2 := Lib.hid hg2
    have hmx := hg4
    unfold maxLen at hmx
    clear hg2 hg6
    refine (shkRead_any w5 b p (g :: S) xi hrt.out (by simp [HBS.out]) hs5g.out g nd co 5 cur HG2.out (by simp) (by omega) (by omega) hg3 hmx).mono ?_
    rintro e w6 ⟨rfl, D6, g6, f6⟩
    have HD6 := Lib.hid (And.intro D6 g6)
    clear D6 g6
    have G6 : Hid (w6.heap[w.heap.size + 1]? = some (.cells #[.int .i64 0, .slice none 0 0, .bool false, .bool false] 32 (0, 0))) := f6.obj H5.out.b2 (by simp; omega)
    have hco : (nd : Int) ≤ (co : Int) := by omega
    have sb : ∀ i, w6.frozen? ⟨w.heap.size + 1, i, none⟩ = false := fun i => by simp [World.frozen?, G6.out]
    have s00 := sb 0
    have s01 := sb 1
    have s02 := sb 2
    have s03 := sb 3
    clear sb
    have r0 : w6.cell? ⟨w.heap.size + 1, 0, none⟩ = some (.int .i64 0) := (cell_of G6.out 0).trans rfl
    have r1 : w6.cell? ⟨w.heap.size + 1, 1, none⟩ = some (.slice none 0 0) := (cell_of G6.out 1).trans rfl
    have r2 : w6.cell? ⟨w.heap.size + 1, 2, none⟩ = some (.bool false) := (cell_of G6.out 2).trans rfl
    have r3 : w6.cell? ⟨w.heap.size + 1, 3, none⟩ = some (.bool false) := (cell_of G6.out 3).trans rfl
    go_wp2_with fail
    go_region
    have G9 : Hid (((((w6.setCell ⟨w.heap.size + 1, 0, none⟩ (.int .i64 (nd : Int))).setCell ⟨w.heap.size + 1, 1, none⟩ (.slice (some ⟨g, 0, none⟩) nd co)).setCell ⟨w.heap.size + 1, 2, none⟩ (.bool true)).setCell ⟨w.heap.size + 1, 3, none⟩ (.bool false)).drew.heap[w.heap.size + 1]? = some (.cells #[.int .i64 (nd : Int), .slice (some ⟨g, 0, none⟩) nd co, .bool true, .bool false] 32 (0, 0))) := (set4X G6.out (.int .i64 (nd : Int)) (.slice (some ⟨g, 0, none⟩) nd co) (.bool true) (.bool false)).1
    have f9 : Fr [w.heap.size + 1] w6 ((((w6.setCell ⟨w.heap.size + 1, 0, none⟩ (.int .i64 (nd : Int))).setCell ⟨w.heap.size + 1, 1, none⟩ (.slice (some ⟨g, 0, none⟩) nd co)).setCell ⟨w.heap.size + 1, 2, none⟩ (.bool true)).setCell ⟨w.heap.size + 1, 3, none⟩ (.bool false)).drew := (set4X G6.out (.int .i64 (nd : Int)) (.slice (some ⟨g, 0, none⟩) nd co) (.bool true) (.bool false)).2.drew
    clear r0 r1 r2 r3 s00 s01 s02 s03
    generalize ((((w6.setCell ⟨w.heap.size + 1, 0, none⟩ (.int .i64 (nd : Int))).setCell ⟨w.heap.size + 1, 1, none⟩ (.slice (some ⟨g, 0, none⟩) nd co)).setCell ⟨w.heap.size + 1, 2, none⟩ (.bool true)).setCell ⟨w.heap.size + 1, 3, none⟩ (.bool false)).drew = w9 at G9 f9 ⊢
    go_wp2_with fail
    refine bodyPost_ret (v := .agg #[.int .i64 (nd : Int), .slice (some ⟨g, 0, none⟩) nd co, .bool true, .bool false]) (results_cell_row rfl _ _ (w.heap.size + 1) _ _ _ _ rfl G9.out Try.underlying32 rfl sizeRT) rfl ?_
    have f9' : Fr [w.heap.size + 1] w6 w9 := f9
    have e9 : ix k 10 = 1 := by unfold ix; have := HKM.out; omega
    have ex : (all.getD (ix att all.length) ⟨[], none⟩) = xi := by rw [← HII.out, ← HXI.out]
    have F6 : Fr [b] w w6 := Fr_two_new H5.out.fr f6 (by omega)
    have F9 : Fr S w w9 := Fr_trans_new (F6.mono (fun x _ hx => by simp at hx; rw [hx]; exact HBS.out)) f9' (by simp)
    have K9 : XI 54 49 22 72 w9 base hb kind p q (all.set i (xi.read nd)) saved bs ss (some ⟨ga, 0, none⟩) c1 a2 c2 S := XI_keepNew (HH.out.upd i HIL.out (xi.read nd) (by rw [HBB.out]; exact F6) (by rw [HBB.out]; exact HD6.out.1.more (fun k hk => .inl (by simp [hk])))) f9' (newOkX HH.out (fun x hx => .inl hx) G6.out) (newB HH.out)
    have O6 : Ow w6 (w.heap.size + 1 + 1) 5 (some ⟨g, 0, none⟩) co (xOut p xi nd) := Ow.of_splice _ hg1 HD6.out.2 hg5 (by rw [xOut_length]; exact hg3) hg4
    have O9 : Ow w9 (w.heap.size + 1 + 1) 5 (some ⟨g, 0, none⟩) co (xOut p xi nd) := O6.keep f9' (fun x hx => by simp; omega)
    refine ⟨some ⟨g, 0, none⟩, co, S, ?_, ?_, ?_, F9, fun x hx => .inl hx, fun y hy hm => ?_⟩
    · simp only [stepX, e9, ex, HS.out.len, xOut_length]
    · simp only [stepX, e9, ex, HS.out.len]; exact O9.mono (by omega)
    · simp only [stepX, e9, ex, HS.out.len]; exact ⟨_, _, _, _, _, _, by rw [← HII.out]; exact K9⟩
    · simp only [Option.some.injEq] at hy
      subst hy
      have := HH.out.lt_of hm
      simp only at this
      omega

end Go.Proofs.Ytkijnpjefccepaa
end
