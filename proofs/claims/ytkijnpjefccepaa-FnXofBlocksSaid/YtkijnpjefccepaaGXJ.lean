/- Contracts and lemmas, merged: Xm, Xv, Xd. Their conditions stand in each. -/
import Derived.Test.YtkijnpjefccepaaGA
import Derived.Test.YtkijnpjefccepaaGB
import Derived.Test.YtkijnpjefccepaaGC
import Derived.Test.YtkijnpjefccepaaGG
import Derived.Test.YtkijnpjefccepaaGH
import Derived.Test.YtkijnpjefccepaaGX
import Derived.Test.YtkijnpjefccepaaGY
import Derived.Test.YtkijnpjefccepaaGXA
import Derived.Test.YtkijnpjefccepaaGXB
import Derived.Test.YtkijnpjefccepaaGXI
import Derived.Lib.MinMax
section
namespace Go.Sha
open Go.RowKit
theorem Ow.empty (w : World) (e : Nat) : Ow (w.alloc (.cells #[] e)) w.heap.size e (some ⟨w.heap.size, 0, none⟩) 0 [] :=
  ⟨rfl, .inr ⟨w.heap.size, 0, #[], rfl, Nat.le_refl _, Go.heap_alloc_new w _, by simp, by simp [maxLen], by simp, by simp⟩⟩
theorem Sl.drop' {w : World} {b o n c : Nat} {l : Bs} (h : Sl w (some ⟨b, o, none⟩) n c l) (k : Nat) (hk : k ≤ n) (h0 : n ≠ 0) : Sl w (some ⟨b, o + k, none⟩) (n - k) (c - k) (l.drop k) := by
  have h1 := h.len
  have h2 := h.cap
  have h3 := h.max
  refine ⟨by simp; omega, by omega, by omega, ?_⟩
  rcases h.cel with h4 | ⟨b', o', e, hc⟩
  · exact absurd h4 h0
  · simp only [Option.some.injEq, Addr.mk.injEq] at e
    obtain ⟨rfl, rfl, _⟩ := e
    refine .inr ⟨b, o + k, rfl, fun i hi => ?_⟩
    rw [Nat.add_assoc, hc (k + i) (by omega)]
    simp [List.getD_eq_getElem?_getD]
end Go.Sha
namespace Go.Proofs.Ytkijnpjefccepaa
open Go.ChangeShapes Go.WideShapes Go.ChangeAt Go.RowKit Go.Sha
/-- a copy in new memory, if there is something to copy -/
def RetCl (n : Nat) (l : Bs) (w : World) (e : Ending) (w' : World) : Prop := ∃ a c, e = .returned (.slice a n c) ∧ Sl w' a n c l ∧ (∀ y, a = some y → n ≠ 0 → w.heap.size ≤ y.block ∧ y.off = 0) ∧ Fr [] w w'
theorem slice_nil (ad : Addr) (n c : Nat) : ∀ u : World, (binOp .eql 22 (.slice (some ad) n c) (.slice none 0 0)).run Try.prog u = .ok (.bool false) u := fun u => by kernel_rfl
set_option maxRecDepth 100000 in
theorem clone_any (ad : Addr) (n c : Nat) (l : Bs) (w : World) (h : Sl w (some ad) n c l) (hn : n ≤ 281474976710656) :
    Calls Try.prog 82 #[.slice (some ad) n c] w (RetCl n l w) := by
  obtain ⟨i0, hi, hz0, hz1, hz2⟩ := info_parts info5
  have hl := h.len
  have f1 : Fr [] w (w.alloc (.cells #[] 5)) := (Fr.refl _ _).alloc _
  have O1 : Hid (Ow (w.alloc (.cells #[] 5)) w.heap.size 5 (some ⟨w.heap.size, 0, none⟩) 0 []) := Ow.empty w 5
  have HS := Lib.hid (h.keep0 f1)
  clear h
  have X3 : Hid (w.heap.size ≤ (w.alloc (.cells #[] 5)).heap.size) := f1.size
  have hcmp := slice_nil ad n c
  go_enter Try.func82, Try.ntmps82
  go_wp2_with (at_builtin; refine wpList_append_srcC _ rfl _ _ 22 22 rfl w.heap.size 5 i0 (.int .u8 0) 1 1 Try.underlying22 hi hz0 hz1 hz2 rfl _ 0 0 [] rfl (Ow.row' O1.out rfl) _ n (l.map bv) rfl (HS.out.src Try.underlying22) (by unfold maxLen; omega) (fit_new (by omega)) X3.out ?_)
  intro a' c' w' ho hg
  have hge := O1.out.own_ge (n := 0)
  have f2 : Fr [] w w' := f1.grown hg (fun k hk => .inl (hge k (by rw [hk]; simp)))
  have O2 : Ow w' w.heap.size 5 a' c' l := Ow.of ho hl.symm (by simp)
  have H2 := Lib.hid O2
  clear ho hg O2 hcmp
  go_wp2_with fail
  go_ret
  exact ⟨a', c', rfl, H2.out.sl_at hl, fun y hy _ => by subst hy; exact ⟨H2.out.block.2.2.1, H2.out.off0⟩, f2⟩
theorem below_frX {B : Nat} {w w' : World} (h : Below B w w') : Fr (List.range' B (w.heap.size - B)) w w' :=
  ⟨h.os, h.tape, h.output, h.size, fun k hk hs => h.block k (by
    rcases Nat.lt_or_ge k B with h1 | h1
    · exact h1
    · exact absurd (List.mem_range'_1.2 ⟨h1, by omega⟩) hs)⟩
/-- a sponge's state as bytes, for each domain -/
theorem appendBinary_x (p : XP) (hp : p.Ok) (x : XS) (w : World) (b T : Nat) (ext : List Value) (a0 : Option Addr) (n0 c0 base : Nat) (L0 : Bs) (h : DgAt w b T ext (xD p x)) (hl : L0.length = n0) (hO : Ow w base 5 a0 c0 L0) (hb : base ≤ w.heap.size) (hbb : b < base) (hn : n0 + 207 ≤ 140737488355328) :
    Calls Try.prog 79 #[.pointer (some ⟨b, 0, none⟩), .slice a0 n0 c0] w fun e w' => ∃ a c, e = .returned (.tuple #[.slice a (n0 + 207) c, .nilIface]) ∧ Ow w' base 5 a c (L0 ++ mar p.mg (xD p x)) ∧ Below base w w' ∧ c0 ≤ c := by
  have ha := hp.any x
  have hr := hp.rle
  have hs : (xD p x).st ≤ 255 := by rcases ha.2.2.2.2.2 with e | e <;> omega
  rcases hp.dm with ⟨h1, h2⟩ | ⟨h1, h2⟩
  · rw [h2]
    exact appendBinary_shk w b T ext _ a0 n0 c0 base L0 h (by rw [ha.2.2.1, h1]) hl hO hb hbb hn (by omega) (by omega) hs
  · rw [h2]
    exact appendBinary_csh w b T ext _ a0 n0 c0 base L0 h (by rw [ha.2.2.1, h1]) hl hO hb hbb hn (by omega) (by omega) hs
theorem unmarshal_x (p : XP) (hp : p.Ok) (x y : XS) (w : World) (b T : Nat) (ext : List Value) (g o cp : Nat) (h : DgAt w b T ext (xD p x)) (hS : Sl w (some ⟨g, o, none⟩) 207 cp (mar p.mg (xD p y))) (hgb : g ≠ b) :
    Calls Try.prog 81 #[.pointer (some ⟨b, 0, none⟩), .slice (some ⟨g, o, none⟩) 207 cp] w (RetD .nilIface b T ext (xD p y) w) := by
  have ha := hp.any x
  have hc := hp.any y
  have hr := hp.rle
  have e := load_eq (xD p x) (xD p y) (by rw [ha.2.1, hc.2.1]) (by rw [ha.2.2.1, hc.2.2.1]) (by rw [ha.2.2.2.1, hc.2.2.2.1])
  rw [← e]
  rcases hp.dm with ⟨h1, h2⟩ | ⟨h1, h2⟩
  · rw [h2] at hS
    exact unmarshal_shk w b T ext _ _ g o cp h (by rw [ha.2.2.1, h1]) hc.1 (by rw [ha.2.1, hc.2.1]) (by omega) (by rw [ha.2.1]; exact hc.2.2.2.2.1) hc.2.2.2.2.2 hS hgb
  · rw [h2] at hS
    exact unmarshal_csh w b T ext _ _ g o cp h (by rw [ha.2.2.1, h1]) hc.1 (by rw [ha.2.1, hc.2.1]) (by omega) (by rw [ha.2.1]; exact hc.2.2.2.2.1) hc.2.2.2.2.2 hS hgb
set_option maxHeartbeats 600000 in
theorem fAppend_any (p : XP) (hp : p.Ok) (_hh : p.Hd) (x : XS) (w : World) (b T : Nat) (ai : Option Addr) (ci : Nat) (a0 : Option Addr) (n0 c0 base : Nat) (L0 : Bs) (h : DgAt w b T [.slice ai p.ini.length ci] (xD p x)) (hS : Sl w ai p.ini.length ci p.ini) (hib : ∀ y, ai = some y → p.ini.length ≠ 0 → y.block < base) (hl : L0.length = n0) (hO : Ow w base 5 a0 c0 L0) (hb : base ≤ w.heap.size) (hbb : b < base) (hn : n0 ≤ 140737488351232) (hm : n0 + 207 + p.ini.length ≤ c0 ∨ n0 + 207 + p.ini.length ≤ 140737488355328) :
    Calls Try.prog 66 #[.pointer (some ⟨b, 0, none⟩), .slice a0 n0 c0] w fun e w' => ∃ a c, e = .returned (.tuple #[.slice a (n0 + (207 + p.ini.length)) c, .nilIface]) ∧ Ow w' base 5 a c (L0 ++ marX p x) ∧ Below base w w' := by
  obtain ⟨i0, hi, hz0, hz1, hz2⟩ := info_parts info5
  have A1 := Lib.hid (appendBinary_x p hp x w b T _ a0 n0 c0 base L0 h hl hO hb hbb (by omega))
  have HD := Lib.hid h
  have HS := Lib.hid hS
  have HIB := Lib.hid hib
  have hml := mar_length p.mg (xD p x) (hp.any x).1
  have HML := Lib.hid hml
  have HL := Lib.hid hl
  clear h hS hib hO hml hl
  obtain ⟨m, hmm⟩ : ∃ m, m = p.ini.length := ⟨_, rfl⟩
  rw [← hmm] at HD HS HIB hm ⊢
  have HM := Lib.hid hmm
  have hmx9 : n0 + 207 + m ≤ 9223372036854775807 := by have := _hh.il; omega
  have HMX := Lib.hid hmx9
  have HHM := Lib.hid hm
  clear hmm hmx9 hm
  go_enter Try.func66, Try.ntmps66
  go_wp2_with fail
  refine A1.out.mono ?_
  rintro e w1 ⟨a1, c1, rfl, o1, B1, hcc⟩
  have hfit : n0 + 207 + m ≤ c1 ∨ Builtin.nextslicecap (n0 + 207 + m) c1 * 1 ≤ 281474976710656 := HHM.out.elim (fun h => .inl (Nat.le_trans h hcc)) (fun h => fit_of (by omega))
  have HFIT := Lib.hid hfit
  clear hfit hcc
  have HD1 := Lib.hid (HD.out.below B1 hbb)
  have q1 := HD1.out.cext rfl
  have HS1 : Hid (Sl w1 ai m ci p.ini) := HS.out.keep (below_frX B1) (fun y hy hn hmem => by have := (List.mem_range'_1.1 hmem).1; have := HIB.out y hy hn; omega)
  have HN1 : Hid ((L0 ++ mar p.mg (xD p x)).length = n0 + 207) := by show _ = _; rw [List.length_append, HL.out, HML.out]
  have O1 := Lib.hid o1
  have hb1 : base ≤ w1.heap.size := Nat.le_trans hb B1.size
  clear o1 A1 HD HS
  go_wp2_with (at_builtin; refine wpList_append_srcC _ rfl _ _ 22 22 rfl base 5 i0 (.int .u8 0) 1 1 Try.underlying22 hi hz0 hz1 hz2 rfl a1 (n0 + 207) c1 ((L0 ++ mar p.mg (xD p x)).map bv) rfl (Ow.row' O1.out HN1.out) _ m (p.ini.map bv) rfl (HS1.out.src Try.underlying22) (by unfold maxLen; have := HMX.out; omega) HFIT.out hb1 ?_)
  intro a2 c2 w2 ho hg _
  have hge := O1.out.own_ge (n := n0 + 207)
  have B2 : Below base w w2 := B1.trans ((((Fr.refl _ _).grown hg (fun q hq => by rw [hq]; exact .inr (by simp))) : Fr (Value.slice a1 (n0 + 207) c1).ownBlock.toList w1 w2).belowB base hb1 hge)
  have O2 : Ow w2 base 5 a2 c2 (L0 ++ marX p x) := Ow.of ho (by rw [List.length_append, HL.out, marX, List.length_append, HML.out, ← HM.out]; omega) (by rw [marX]; simp)
  have H2 := Lib.hid O2
  clear ho hg O2
  go_wp2_with fail
  go_ret2
  exact ⟨a2, c2, by rw [Nat.add_assoc]; rfl, H2.out, B2⟩

set_option maxHeartbeats 600000 in
theorem fMarshal_any (p : XP) (hp : p.Ok) (hh : p.Hd) (x : XS) (w : World) (b T : Nat) (ai : Option Addr) (ci : Nat) (h : DgAt w b T [.slice ai p.ini.length ci] (xD p x)) (hS : Sl w ai p.ini.length ci p.ini) :
    Calls Try.prog 65 #[.pointer (some ⟨b, 0, none⟩)] w fun e w' => ∃ a c, e = .returned (.tuple #[.slice a (207 + p.ini.length) c, .nilIface]) ∧ Ow w' w.heap.size 5 a c (marX p x) ∧ Fr [] w w' := by
  have q1 := h.cext rfl
  have hbb := h.lt
  have hil := hh.il
  have HS := Lib.hid hS
  have HD := Lib.hid h
  clear h hS
  obtain ⟨m, hmm⟩ : ∃ m, m = p.ini.length := ⟨_, rfl⟩
  have HM := Lib.hid hmm
  have hmk := make_cap2 0 (207 + m) 0 (207 + (m : Int)) rfl (by omega) (by omega) (by rw [hmm]; omega)
  have s1 : IntKind.i64.wrap (207 + (m : Int)) = 207 + (m : Int) := IntWalk.i64_in _ (by rw [hmm]; omega)
  rw [← hmm] at q1 hil ⊢
  clear hmm
  go_enter Try.func65, Try.ntmps65
  go_wp2_with fail
  clear hmk
  have f1 : Fr [] w (w.alloc (.cells (madeCells #[.int .u8 0] (207 + m)) 5)) := (Fr.refl _ _).alloc _
  have O1 := Lib.hid (Ow.made0 w (207 + m) 5 (by unfold maxLen; omega))
  have D1 := Lib.hid (HD.out.keep f1 (by simp))
  have S1 := Lib.hid (HS.out.keep0 f1)
  have hz : w.heap.size ≤ (w.alloc (.cells (madeCells #[.int .u8 0] (207 + m)) 5)).heap.size := by simp
  have A1 := Lib.hid (fAppend_any p hp hh x _ b T ai ci _ 0 (207 + m) w.heap.size [] D1.out S1.out (fun y hy hn => HS.out.lt hy hn) rfl O1.out hz hbb (by omega) (.inl (by rw [← HM.out]; omega)))
  refine A1.out.mono ?_
  rintro e w2 ⟨a, c, rfl, O2, B2⟩
  have H2 := Lib.hid O2
  clear O2 A1
  rw [← HM.out, Nat.zero_add]
  go_wp2_with fail
  go_ret2
  exact ⟨a, c, by simp, by simpa using H2.out, f1.of_belowB B2 (Nat.le_refl _)⟩

set_option maxRecDepth 100000 in
set_option maxHeartbeats 800000 in
theorem fUnmarshal_any (p : XP) (hp : p.Ok) (hh : p.Hd) (x y : XS) (w : World) (b T : Nat) (ai : Option Addr) (ci g o cp : Nat) (h : DgAt w b T [.slice ai p.ini.length ci] (xD p x)) (hS : Sl w (some ⟨g, o, none⟩) (207 + p.ini.length) cp (marX p y)) (hgb : g ≠ b) :
    Calls Try.prog 67 #[.pointer (some ⟨b, 0, none⟩), .slice (some ⟨g, o, none⟩) (207 + p.ini.length) cp] w fun e w' => e = .returned .nilIface ∧ (∃ a c, Sl w' a p.ini.length c p.ini ∧ (∀ z, a = some z → p.ini.length ≠ 0 → w.heap.size ≤ z.block ∧ z.off = 0) ∧ DgAt w' b T [.slice a p.ini.length c] (xD p y)) ∧ Fr [b] w w' := by
  have hil := hh.il
  have hml := mar_length p.mg (xD p y) (hp.any y).1
  have hcap := hS.cap
  have hmx := hS.max
  unfold maxLen at hmx
  have S1 : Hid (Sl w.drew (some ⟨g, o, none⟩) 207 cp (mar p.mg (xD p y))) := by
    have e := (hS.keep0 (Fr.refl _ _).drew : Sl w.drew _ _ _ _).take 207 (by omega)
    rw [marX, List.take_left' hml] at e
    exact e
  have S2 : Hid (Sl w (some ⟨g, o + 207, none⟩) p.ini.length (cp - 207) p.ini) := by
    have e := hS.drop' 207 (by omega) (by omega)
    rw [marX, List.drop_left' hml, show 207 + p.ini.length - 207 = p.ini.length by omega] at e
    exact e
  have HD := Lib.hid h
  clear h hS hml
  have U1 := Lib.hid (unmarshal_x p hp x y w.drew b T [.slice ai p.ini.length ci] g o cp HD.out S1.out hgb)
  obtain ⟨m, hmm⟩ : ∃ m, m = p.ini.length := ⟨_, rfl⟩
  rw [← hmm] at HD S2 U1 hil hcap ⊢
  have HM := Lib.hid hmm
  clear hmm S1
  have z1 : ¬ (207 + (m : Int)) < 207 := by omega
  have z2 : (207 : Int) ≤ 207 + (m : Int) := by omega
  have z3 : 207 + m - 207 = m := by omega
  have z4 : (207 : Int) ≤ (cp : Int) := by omega
  have tt : True := trivial
  go_enter Try.func67, Try.ntmps67
  go_wp2_with fail
  go_region_held3 (fun _ => True ∧ True)
    (first | (exact ⟨trivial, trivial⟩) | (go_keep))
    (first | (go_at_call 81; refine U1.out.mono ?_; rintro e w1 ⟨rfl, D1, f1⟩))
  have f01 : Fr [b] w w1 := (Fr.refl [b] w).drew.trans f1
  have HD1 := Lib.hid D1
  clear D1 U1
  have S3 := Lib.hid (S2.out.keep f01 (fun y hy _ => by simp only [Option.some.injEq] at hy; subst hy; simp; exact hgb))
  clear S2
  by_cases hc : cp = 207
  · subst hc
    obtain rfl : m = 0 := by omega
    have S4 : Hid (Sl w1 (some ⟨g, o, none⟩) 0 0 p.ini) := ⟨HM.out.symm, Nat.le_refl _, by simp [maxLen], .inl rfl⟩
    go_wp2_with fail
    refine (clone_any _ 0 _ p.ini w1 S4.out (by omega)).mono ?_
    rintro e w2 ⟨a2, c2, rfl, s2, _, f2⟩
    have HS2 := Lib.hid s2
    have D2 := Lib.hid (HD1.out.keep f2 (by simp))
    have q1 := D2.out.cext rfl
    have q2 := D2.out.fz 205
    clear s2 HD1
    go_wp2_with fail
    go_ret
    refine ⟨rfl, ⟨a2, c2, ?_, fun z hz hn => absurd rfl hn, D2.out.setExt _⟩, (f01.trans (f2.mono (by simp))).setCell _ _ (.inr (by simp))⟩
    exact ⟨HS2.out.len, HS2.out.cap, HS2.out.max, .inl rfl⟩
  · have hc2 : ¬ 207 = cp := fun e => hc e.symm
    go_wp2_with fail
    refine (clone_any _ m _ p.ini w1 S3.out (by omega)).mono ?_
    rintro e w2 ⟨a2, c2, rfl, s2, hs2, f2⟩
    have HS2 := Lib.hid (And.intro s2 hs2)
    have D2 := Lib.hid (HD1.out.keep f2 (by simp))
    have q1 := D2.out.cext rfl
    have q2 := D2.out.fz 205
    have hb2 := HD1.out.lt
    clear s2 hs2
    go_wp2_with fail
    go_ret
    refine ⟨rfl, ⟨a2, c2, HS2.out.1.keep ((Fr.refl [b] w2).setCell _ _ (.inr (by simp))) (fun z hz hn => by simp; have := (HS2.out.2 z hz hn).1; omega), fun z hz hn => ⟨Nat.le_trans f01.size (HS2.out.2 z hz hn).1, (HS2.out.2 z hz hn).2⟩, D2.out.setExt _⟩, (f01.trans (f2.mono (by simp))).setCell _ _ (.inr (by simp))⟩

theorem shkMarshal_any (w : World) (b : Nat) (p : XP) (S : List Nat) (x : XS) (hp : p.Ok) (hh : p.Hd) (hbS : b ∈ S) (h : XsAt w b 72 p S x) :
    Calls Try.prog 46 #[.pointer (some ⟨b, 0, none⟩)] w fun e w' => ∃ a c, e = .returned (.tuple #[.slice a (207 + p.ini.length) c, .nilIface]) ∧ Ow w' w.heap.size 5 a c (marX p x) ∧ XsAt w' b 72 p S x ∧ Fr [b] w w' := by
  go_enter Try.func46, Try.ntmps46
  go_wp2_with fail
  refine (xinit_any w b p S _ hp hbS h).mono ?_
  rintro e w1 ⟨rfl, ⟨ai, ci, h1, h2, D1⟩, f1⟩
  have H1 := Lib.hid (And.intro h1 h2)
  have HD1 := Lib.hid D1
  clear h1 h2
  go_wp2_with fail
  refine (fMarshal_any p hp hh x w1 b 72 ai ci D1 H1.out.1).mono ?_
  rintro e w2 ⟨a, c, rfl, O2, f2⟩
  have H2 : Hid (Ow w2 w.heap.size 5 a c (marX p x)) := O2.mono f1.size
  clear O2 D1
  go_wp2_with fail
  go_ret2
  exact ⟨a, c, rfl, H2.out, ⟨ai, ci, H1.out.1.keep0 f2, H1.out.2, .inl (HD1.out.keep f2 (by simp))⟩, f1.trans (f2.mono (by simp))⟩


/-- behind init: no zero value any more -/
def RetI2 (b : Nat) (p : XP) (S : List Nat) (x : XS) (w : World) (e : Ending) (w' : World) : Prop := e = .returned (.tuple #[]) ∧ (∃ ai ci, Sl w' ai p.ini.length ci p.ini ∧ (∀ y, ai = some y → p.ini.length ≠ 0 → y.block ∉ S ∧ y.off = 0) ∧ (∀ y, ai = some y → p.ini.length ≠ 0 → y.block < w.heap.size) ∧ DgAt w' b 72 [.slice ai p.ini.length ci] (xD p x)) ∧ Fr [b] w w'
set_option maxRecDepth 100000 in
theorem xinit2_any (w : World) (b : Nat) (p : XP) (S : List Nat) (x : XS) (hp : p.Ok) (_hbS : b ∈ S) (h : XsAt w b 72 p S x) :
    Calls Try.prog 61 #[.pointer (some ⟨b, 0, none⟩)] w (RetI2 b p S x w) := by
  obtain ⟨ai, ci, h1, h2, h | ⟨rfl, rfl, h⟩⟩ := h
  · have ha := hp.any x
    have ho : ((xD p x).out : Int) ≠ 0 := by rw [ha.2.2.2.1]; have := hp.opos; omega
    have HH := Lib.hid (And.intro h1 h2)
    clear h1 h2 ha
    obtain ⟨d, hd⟩ : ∃ d, d = xD p x := ⟨_, rfl⟩
    rw [← hd] at h ho
    have hb : ((d.out : Int) == 0) = false := by rw [beq_eq_false_iff_ne]; exact ho
    have HD := Lib.hid hd
    clear ho hd
    go_enter Try.func61, Try.ntmps61
    go_wp2_with fail
    refine (fSize_any w b 72 _ d h).mono ?_
    rintro e w' ⟨rfl, rfl⟩
    go_wp2_with fail
    go_end0
    exact ⟨rfl, ⟨ai, ci, HH.out.1, HH.out.2, fun y hy hn => HH.out.1.lt hy hn, by rw [← HD.out]; exact h⟩, Fr.refl _ _⟩
  · have hn : ai = none ∨ True := .inr trivial
    go_enter Try.func61, Try.ntmps61
    go_wp2_with fail
    refine (fSize_any w b 72 _ _ h).mono ?_
    rintro e w' ⟨rfl, rfl⟩
    go_wp2_with fail
    refine (libNewSHAKE256_any w').mono ?_
    rintro e w1 ⟨g, rfl, hg, hgw, D1, f1⟩
    have hbw := h.lt
    have H1 : Hid (w1.heap[g]? = some (.cells ((newD 136 64 31).cells ++ [Value.slice none 0 0]).toArray 72 (0, 0))) := D1.2
    have H0 : Hid (w1.heap[b]? = some (.cells ((newD 0 0 0).cells ++ [Value.slice ai 0 ci]).toArray 72 (0, 0))) := (h.keep f1 (by simp)).2
    obtain ⟨C, hC⟩ : ∃ C, C = ((newD 136 64 31).cells ++ [Value.slice none 0 0]).toArray := ⟨_, rfl⟩
    obtain ⟨Z, hZ⟩ : ∃ Z, Z = ((newD 0 0 0).cells ++ [Value.slice ai 0 ci]).toArray := ⟨_, rfl⟩
    have hs : Hid (C.size = 206 ∧ Z.size = 206 ∧ ∀ v ∈ C.toList, v.oneCell' = true) := by
      rw [hC, hZ]
      exact ⟨by rw [List.size_toArray, Dg.cells1_length _ _ List.length_replicate], by rw [List.size_toArray, Dg.cells1_length _ _ List.length_replicate], fun v hv => (newD 136 64 31).cells1_one none 0 0 v (by simpa using hv)⟩
    rw [← hC] at H1
    rw [← hZ] at H0
    have HC := Lib.hid hC
    clear D1 hC hZ
    go_wp2_with (refine wpList_load_row rfl _ _ rfl g rfl _ C (0, 0) _ H1.out Try.underlying72 rfl (by rw [hs.out.1]; exact sizeSX) ?_; refine Hid.out ?_)
    show wpList _ _ _ _ _ _
    go_wp2_with (refine wpList_store_bits rfl _ _ _ rfl b rfl 72 C Z rfl H0.out (by rw [hs.out.1, hs.out.2.1]) hs.out.2.2 (by rw [hs.out.1]; exact sizeSX) ?_; refine Hid.out ?_)
    show wpList _ _ _ _ _ _
    have D2 : DgAt (w1.setRow b C) b 72 [Value.slice none 0 0] (newD 136 64 31) := ⟨List.length_replicate, by rw [← HC.out]; exact setRow_heap _ _ _ _ _ _ H0.out⟩
    have f2 : Fr [b] w' (w1.setRow b C) := (f1.mono (by simp)).setRow _ _ (.inr (by simp))
    generalize w1.setRow b C = w2 at D2 f2 ⊢
    have H2 := Lib.hid D2
    clear D2
    go_wp2_with fail
    go_end0
    exact ⟨rfl, ⟨none, 0, ⟨rfl, Nat.le_refl _, by simp [maxLen], .inl rfl⟩, (fun y hy => by cases hy), (fun y hy => by cases hy), H2.out⟩, f2⟩


/-- AppendBinary: S holds all blocks from base on -/
theorem shkAppend_any (w : World) (b : Nat) (p : XP) (S : List Nat) (x : XS) (hp : p.Ok) (hh : p.Hd) (hbS : b ∈ S) (h : XsAt w b 72 p S x) (ao : Option Addr) (ni co base : Nat) (l : Bs) (hl : l.length = ni) (hO : Ow w base 5 ao co l) (hb : base ≤ w.heap.size) (hbb : b < base) (hR : ∀ k, base ≤ k → k < w.heap.size → k ∈ S) (hn : ni ≤ 140737488351232) (hm : ni + 207 + p.ini.length ≤ 140737488355328) :
    Calls Try.prog 48 #[.pointer (some ⟨b, 0, none⟩), .slice ao ni co] w fun e w' => ∃ a c w1, e = .returned (.tuple #[.slice a (ni + (207 + p.ini.length)) c, .nilIface]) ∧ Ow w' base 5 a c (l ++ marX p x) ∧ XsAt w' b 72 p S x ∧ Fr [b] w w1 ∧ Below base w1 w' := by
  have HL := Lib.hid hl
  have HO := Lib.hid hO
  have HR := Lib.hid hR
  clear hl hO hR
  go_enter Try.func48, Try.ntmps48
  go_wp2_with fail
  refine (xinit2_any w b p S _ hp hbS h).mono ?_
  rintro e w1 ⟨rfl, ⟨ai, ci, h1, h2, h3, D1⟩, f1⟩
  have hib : ∀ y, ai = some y → p.ini.length ≠ 0 → y.block < base := fun y hy hn => by
    rcases Nat.lt_or_ge y.block base with h4 | h4
    · exact h4
    · exact absurd (HR.out _ h4 (h3 y hy hn)) (h2 y hy hn).1
  have H1 := Lib.hid (And.intro h1 (And.intro h2 hib))
  have HD1 := Lib.hid D1
  have O1 := Lib.hid (HO.out.keep f1 (fun k hk => by simp; omega))
  have hb1 : base ≤ w1.heap.size := Nat.le_trans hb f1.size
  clear h1 h2 h3 hib D1
  go_wp2_with fail
  refine (fAppend_any p hp hh x w1 b 72 ai ci ao ni co base l HD1.out H1.out.1 H1.out.2.2 HL.out O1.out hb1 hbb hn (.inr hm)).mono ?_
  rintro e w2 ⟨a, c, rfl, O2, B2⟩
  have H2 := Lib.hid O2
  clear O2
  go_wp2_with fail
  go_ret2
  refine ⟨a, c, w1, rfl, H2.out, ⟨ai, ci, H1.out.1.keep (below_frX B2) (fun y hy hn hmem => ?_), H1.out.2.1, .inl (HD1.out.below B2 hbb)⟩, f1, B2⟩
  have := (List.mem_range'_1.1 hmem).1
  have := H1.out.2.2 y hy hn
  omega
theorem shkUnmarshal_any (w : World) (b : Nat) (p : XP) (S : List Nat) (x y : XS) (hp : p.Ok) (hh : p.Hd) (hbS : b ∈ S) (h : XsAt w b 72 p S x) (hSl : ∀ k ∈ S, k < w.heap.size) (g og cp : Nat) (hS : Sl w (some ⟨g, og, none⟩) (207 + p.ini.length) cp (marX p y)) (hgb : g ≠ b) :
    Calls Try.prog 49 #[.pointer (some ⟨b, 0, none⟩), .slice (some ⟨g, og, none⟩) (207 + p.ini.length) cp] w (RetS .nilIface b p S y w) := by
  have HS := Lib.hid hS
  clear hS
  go_enter Try.func49, Try.ntmps49
  go_wp2_with fail
  refine (xinit_any w b p S _ hp hbS h).mono ?_
  rintro e w1 ⟨rfl, ⟨ai, ci, h1, h2, D1⟩, f1⟩
  have HD1 := Lib.hid D1
  have S1 := Lib.hid (HS.out.keep f1 (fun x hx _ => by simp at hx ⊢; rw [← hx]; exact hgb))
  clear h1 h2 D1
  go_wp2_with fail
  refine (fUnmarshal_any p hp hh x y w1 b 72 ai ci g og cp HD1.out S1.out hgb).mono ?_
  rintro e w2 ⟨rfl, ⟨a2, c2, s2, hs2, D2⟩, f2⟩
  have H2 := Lib.hid (And.intro s2 (And.intro hs2 D2))
  clear s2 hs2 D2
  go_wp2_with fail
  go_ret
  refine ⟨rfl, ⟨a2, c2, H2.out.1, fun z hz hn => ⟨fun hm => ?_, (H2.out.2.1 z hz hn).2⟩, .inl H2.out.2.2⟩, f1.trans f2⟩
  have := (H2.out.2.1 z hz hn).1
  have := hSl _ hm
  have := f1.size
  omega

end Go.Proofs.Ytkijnpjefccepaa
end

section
namespace Go.Sha
open Go.RowKit
theorem Src_oneV {P : Program} {tx e' : TypeId} {w : World} (hk : P.underlying tx = some (.slice e')) (v : Value) (hv : v.oneCell' = true) (E : Nat) : Src P 1 tx (.slice (some ⟨w.heap.size, 0, none⟩) 1 1) 1 [v] (w.alloc (.cells #[v] E)) := by
  refine Src.ofSlice _ hk ⟨w.heap.size, 0, none⟩ 1 1 [v] rfl (fun j u hu => ?_) (by simpa using hv)
  have hj : j = 0 := by have := (List.getElem?_eq_some_iff.1 hu).1; simp at this; exact this
  subst hj
  have h := Go.heap_alloc_new w (.cells #[v] E)
  have e : (⟨w.heap.size, 0, none⟩ : Addr).add 0 = ⟨w.heap.size, 0, none⟩ := by unfold Addr.add; split <;> simp_all
  rw [e]
  simp only [World.cell?, h]
  simpa using hu
end Go.Sha
namespace Go.Proofs.Ytkijnpjefccepaa
open Go.ChangeShapes Go.WideShapes Go.ChangeAt Go.RowKit Go.Sha
theorem OwX_at0 {w : World} {base e c : Nat} {a : Option Addr} {l : Bs} (h : Ow w base e a c l) (hl : 0 < l.length) : ∃ g, a = some ⟨g, 0, none⟩ ∧ base ≤ g ∧ l.length ≤ c ∧ c ≤ maxLen := by
  obtain ⟨g, cur, h1, h2, _, h3, h4, _⟩ := h.open hl
  exact ⟨g, h1, h2, h3, h4⟩
theorem infoSX : (Try.prog.info? 22).map (fun i => (i.zero, i.size, i.bytes)) = some (some (.slice none 0 0), 1, 24) := by kernel_rfl
section
variable {w w' : World} {base hb : Nat} {kind : Int} {p : XP} {q : NC} {all saved : List XS} {bs : List Nat} {ss : List (Nat × Nat)} {a1 a2 : Option Addr} {c1 c2 : Nat} {S : List Nat}
theorem xsaved_cell (h : XI 54 49 22 72 w base hb kind p q all saved bs ss a1 c1 a2 c2 S) {n : Nat} (hn : saved.length = n) :
    w.cell? ⟨hb, 4, none⟩ = some (.slice a2 n c2) ∧ w.frozen? ⟨hb, 4, none⟩ = false := by
  subst hn
  exact ⟨by rw [cell_of h.blk]; rfl, by simp [World.frozen?, h.blk]⟩
theorem xgrown_blk2 {wB wC : World} {n : Nat} (h : XI 54 49 22 72 wB base hb kind p q all saved bs ss a1 c1 a2 c2 S) (hn : saved.length = n) (hgr : wB.grownBy wC (Value.slice a2 n c2).ownBlock) :
    wC.cell? ⟨hb, 4, none⟩ = some (.slice a2 n c2) ∧ wC.frozen? ⟨hb, 4, none⟩ = false := by
  subst hn
  have fBC : Fr (blkOf a2) wB wC := by
    rw [← ownBlock_blkOf a2 saved.length c2]
    exact (Fr.refl _ _).grown hgr (fun k hk => by rw [hk]; exact .inr (by simp))
  have hblkC := fBC.obj h.blk (fun hm => by
    obtain ⟨x, hx, e⟩ := mem_blkOf.1 hm
    exact (h.a2bs x hx).1 e)
  exact ⟨by rw [cell_of hblkC]; rfl, by simp [World.frozen?, hblkC]⟩
end
theorem xsave_sub {wB : World} {a2 a2' : Option Addr} {S : List Nat} {N : Nat} (ha : a2' = a2 ∨ a2' = some ⟨wB.heap.size, 0, none⟩) (h1 : ∀ x, a2 = some x → x.block ∈ S) (hB : N ≤ wB.heap.size) : ∀ k ∈ blkOf a2' ++ S, k ∈ S ∨ N ≤ k := fun k hk => by
  rcases List.mem_append.1 hk with hk | hk
  · obtain ⟨x, hx, rfl⟩ := mem_blkOf.1 hk
    rcases ha with rfl | rfl
    · exact .inl (h1 x hx)
    · simp only [Option.some.injEq] at hx
      subst hx
      exact .inr hB
  · exact .inl hk
/-- what a saved state leaves -/
def XSvR (base hb : Nat) (kind : Int) (p : XP) (q : NC) (pb : Bs) (all saved : List XS) (S : List Nat) (w : World) (e : Ending) (w' : World) : Prop :=
  ∃ a c bs' ss' a1' c1' a2' c2' S', e = .returned (.agg #[.int .i64 0, .slice a pb.length c, .bool true, .bool false]) ∧ Ow w' w.heap.size 5 a c pb ∧ XI 54 49 22 72 w' base hb kind p q all saved bs' ss' a1' c1' a2' c2' S' ∧ Fr S w w' ∧ (∀ k ∈ S', k ∈ S ∨ w.heap.size ≤ k) ∧ ∀ y, a = some y → y.block ∉ S'
set_option maxRecDepth 100000 in
set_option maxHeartbeats 1600000 in
theorem xsave_any (w : World) (base hb : Nat) (kind : Int) (p : XP) (q : NC) (all saved : List XS) (bs : List Nat) (ss : List (Nat × Nat)) (a1 a2 : Option Addr) (c1 c2 : Nat) (S : List Nat) (abf : Option Addr) (nb cbf gs os cs M : Nat) (pb : Bs) (x : XS) (h : XI 54 49 22 72 w base hb kind p q all saved bs ss a1 c1 a2 c2 S) (hp : pb.length = nb) (hM : 207 + p.ini.length = M) (hM2 : M ≤ 281474976702689) (hSt : Sl w (some ⟨gs, os, none⟩) (nb + M) cs (pb ++ marX p x)) (hgs : gs ∉ S) (hnb : nb ≤ 140737488351232) (hsv : saved.length ≤ 3000000000000) :
    Calls Try.prog 47 #[.pointer (some ⟨hb, 0, none⟩), .slice abf nb cbf, .slice (some ⟨gs, os, none⟩) (nb + M) cs, .nilIface] w (XSvR base hb kind p q pb all (saved ++ [x]) S w) := by
  obtain ⟨i0, hi0, hz0, hz1, hz2⟩ := info_parts infoSX
  obtain ⟨n, hnl⟩ : ∃ n, n = saved.length := ⟨_, rfl⟩
  have HNL : Hid (saved.length = n) := hnl.symm
  rw [← hnl] at hsv
  have HH := Lib.hid h
  have hbase := (HH.out.Slt hb HH.out.hbS)
  have HP := Lib.hid hp
  have HST := Lib.hid hSt
  have HGS := Lib.hid hgs
  have hcap := hSt.cap
  have hmx := hSt.max
  unfold maxLen at hmx
  have hM1 : 207 ≤ M := by omega
  have HMM := Lib.hid hM
  have hgl := hSt.lt (x := ⟨gs, os, none⟩) rfl (by omega)
  simp only at hgl
  clear hnl h hp hSt hgs hM
  have mn : min (nb : Int) ((nb : Int) + (M : Int)) = (nb : Int) := by omega
  have z1 : ¬ cs = nb := by omega
  have z2 : nb + M - nb = M := by omega
  have z3 : (nb : Int) ≤ (nb : Int) + (M : Int) := by omega
  go_enter Try.func47, Try.ntmps47
  go_wp2_with fail
  have f1 : Fr [] w (w.alloc (.cells #[.int .i64 0, .slice none 0 0, .bool false, .bool false] 32)) := (Fr.refl _ _).alloc _
  have B1 : Hid ((w.alloc (.cells #[.int .i64 0, .slice none 0 0, .bool false, .bool false] 32)).heap[w.heap.size]? = some (.cells #[.int .i64 0, .slice none 0 0, .bool false, .bool false] 32 (0, 0))) := Go.heap_alloc_new w (.cells #[.int .i64 0, .slice none 0 0, .bool false, .bool false] 32)
  have zz1 : (w.alloc (.cells #[.int .i64 0, .slice none 0 0, .bool false, .bool false] 32)).heap.size = w.heap.size + 1 := by simp
  have Z1 := Lib.hid zz1
  clear zz1
  have H1 := Lib.hid (HH.out.keep0 f1)
  have S1 := Lib.hid (HST.out.keep0 f1)
  generalize w.alloc (.cells #[.int .i64 0, .slice none 0 0, .bool false, .bool false] 32) = w1 at f1 B1 Z1 H1 S1 ⊢
  have S1d : Hid (Sl w1.drew (some ⟨gs, os + nb, none⟩) M (cs - nb) (marX p x)) := by
    have e := (S1.out.keep0 (Fr.refl _ _).drew).drop' nb (by omega) (by omega)
    rw [List.drop_left' HP.out, z2] at e
    exact e
  have q1 := (xsaved_cell (H1.out.keep0 (Fr.refl _ _).drew) HNL.out).1
  have hml : (marX p x).length = M := by rw [marX_length _ _ HH.out.rt, HMM.out]
  have HML := Lib.hid hml
  clear hml
  go_region_law (first
    | (go_simp; go_at_call 40; refine (copied_n _ M _ (marX p x) _ S1d.out (by omega)).mono ?_; rintro e w2 ⟨ac, cc, rfl, o2, f2⟩; obtain ⟨g, hac, hg1, hg2, hg3⟩ := OwX_at0 o2 (by rw [HML.out]; omega); rw [hac] at o2 ⊢; have O2 := Lib.hid o2; have q3 := (xsaved_cell (H1.out.keep0 ((Fr.refl _ _).drew.trans f2)) HNL.out).1; have q4 := (xsaved_cell (H1.out.keep0 ((Fr.refl _ _).drew.trans (f2.alloc (.cells #[.slice (some ⟨g, 0, none⟩) M cc] 22)))) HNL.out).1; have H2 := Lib.hid (H1.out.keep0 ((Fr.refl _ _).drew.trans f2)); have hsz2 : w1.heap.size ≤ w2.heap.size := f2.size; have HAC := Lib.hid hac; clear o2 hac)
    | (refine step_append_srcN _ rfl _ _ 52 52 rfl base 22 i0 (.slice none 0 0) 1 24 Try.underlying52 hi0 hz0 hz1 hz2 rfl a2 n c2 (ss.map (slx M)) rfl (by have := (H2.out.keep0 ((Fr.refl _ _).alloc (.cells #[.slice (some ⟨g, 0, none⟩) M cc] 22))).rowS; rw [HNL.out, HMM.out] at this; exact this) _ 1 [slx M (g, cc)] rfl (Src_oneV Try.underlying52 (slx M (g, cc)) rfl 22) (by unfold maxLen; omega) (by omega) (by have := Z1.out; simp; omega) ?_; intro a7 c7 w7 ho hg ha; have q8 := xgrown_blk2 (H2.out.keep0 ((Fr.refl _ _).alloc (.cells #[.slice (some ⟨g, 0, none⟩) M cc] 22))) HNL.out hg))
  all_goals
    have P7 := XI.addSaved (H1.out.keep0 (Fr.refl _ _).drew) (wB := w2.alloc (.cells #[.slice (some ⟨g, 0, none⟩) M cc] 22)) (wC := w7) (g := g) (c := cc) (c2' := c7) (a2' := a7) (data := x) (f2.trans ((Fr.refl _ _).alloc _)) (by rw [HMM.out]; exact (O2.out.sl_at HML.out).keep0 ((Fr.refl _ _).alloc _)) hg1 (by rw [HNL.out, HMM.out]; exact ho) (by rw [HNL.out]; exact hg) ha
    rw [HNL.out] at P7
    have HP7 := Lib.hid P7
    have hsub := xsave_sub (wB := w2.alloc (.cells #[.slice (some ⟨g, 0, none⟩) M cc] 22)) (N := w.heap.size + 1) ha HH.out.a2S (by have := Z1.out; simp; omega)
    have HSUB := Lib.hid hsub
    clear P7 ho hg q1 q3 q4 q8 hsub
    generalize w7.setCell ⟨hb, 4, none⟩ (.slice a7 (n + 1) c7) = w8 at HP7 ⊢
    have f18 : Fr S w1 w8 := ⟨HP7.out.2.os, HP7.out.2.tape, HP7.out.2.output, HP7.out.2.size, HP7.out.2.block⟩
    have B8 : Hid (w8.heap[w.heap.size]? = some (.cells #[.int .i64 0, .slice none 0 0, .bool false, .bool false] 32 (0, 0))) := f18.obj B1.out (fun hm => by have := HH.out.lt_of hm; omega)
    have S8 : Hid (Sl w8 (some ⟨gs, os, none⟩) nb cs pb) := by
      have e := (S1.out.keep f18 (fun x hx _ => by simp only [Option.some.injEq] at hx; subst hx; exact HGS.out)).take nb (by omega)
      rw [List.take_left' HP.out] at e
      exact e
    have z4 : nb ≤ cs := by omega
    go_wp2_with fail
    refine (copied_n _ nb cs pb _ S8.out (by omega)).mono ?_
    rintro e w6 ⟨a9, c9, rfl, o9, f69⟩
    have O9 := Lib.hid o9
    clear o9
    have B9 : Hid (w6.heap[w.heap.size]? = some (.cells #[.int .i64 0, .slice none 0 0, .bool false, .bool false] 32 (0, 0))) := f69.obj B8.out (by simp)
    go_wp2_with (refine wpList_store_bits rfl _ _ _ rfl (w.heap.size) rfl 32 #[.int .i64 0, .slice a9 nb c9, .bool true, .bool false] #[.int .i64 0, .slice none 0 0, .bool false, .bool false] rfl B9.out rfl (by intro v hv; simp at hv; rcases hv with rfl | rfl | rfl | rfl <;> rfl) sizeRT ?_; refine Hid.out ?_)
    show wpList _ _ _ _ _ _
    have G9 := Lib.hid (setRow_heap _ _ _ (#[.int .i64 0, .slice a9 nb c9, .bool true, .bool false] : Array Value) _ _ B9.out)
    have f9 : Fr [w.heap.size] w6 (w6.setRow (w.heap.size) #[.int .i64 0, .slice a9 nb c9, .bool true, .bool false]) := (Fr.refl _ _).setRow _ _ (.inr (by simp))
    generalize w6.setRow (w.heap.size) #[.int .i64 0, .slice a9 nb c9, .bool true, .bool false] = w9 at G9 f9 ⊢
    go_wp2_with fail
    refine bodyPost_ret (v := .agg #[.int .i64 0, .slice a9 nb c9, .bool true, .bool false]) (results_cell_row rfl _ _ (w.heap.size) _ _ _ _ rfl G9.out Try.underlying32 rfl sizeRT) rfl ?_
    have F9 : Fr S w w9 := Fr_trans_new (((f1.mono (by simp)).trans f18 : Fr S w w8).trans (f69.mono (by simp))) f9 (by simp)
    have hw8 : w.heap.size + 1 ≤ w8.heap.size := by have := f18.size; have := Z1.out; omega
    have K9 := XI_keepNew (HP7.out.1.keep0 f69) f9 (fun x hx => ⟨fun hm => by
      simp only [List.mem_cons, List.not_mem_nil, or_false] at hx
      subst hx
      rcases HSUB.out _ hm with h1 | h1
      · have := HH.out.lt_of h1
        omega
      · omega, by
      simp only [List.mem_cons, List.not_mem_nil, or_false] at hx
      subst hx
      exact NB_res B9.out⟩) (fun x hx => by
      simp only [List.mem_cons, List.not_mem_nil, or_false] at hx
      omega)
    have O9' : Ow w9 w8.heap.size 5 a9 c9 pb := O9.out.keep f9 (fun x hx => by simp; omega)
    refine ⟨a9, c9, _, _, _, _, _, _, _, ?_, O9'.mono (by omega), K9, F9, fun x hx => (HSUB.out x hx).imp id (fun h => by omega), fun y hy hm => ?_⟩
    · rw [HP.out]
    · subst hy
      have h1 := O9'.block.2.2.1
      have h2 := (HP7.out.1.Slt _ hm).2
      omega

end Go.Proofs.Ytkijnpjefccepaa
end

section
namespace Go.Proofs.Ytkijnpjefccepaa
open Go.ChangeShapes Go.WideShapes Go.ChangeAt Go.RowKit Go.Sha

set_option maxRecDepth 100000 in
set_option maxHeartbeats 600000 in
theorem xact_save (w : World) (base hb : Nat) (kind : Int) (p : XP) (q : NC) (all saved : List XS) (bs : List Nat) (ss : List (Nat × Nat)) (a1 a2 : Option Addr) (c1 c2 : Nat) (S : List Nat) (ad : Option Addr) (nd cd : Nat) (data : Bs) (k att pick : Int) (h : XI 54 49 22 72 w base hb kind p q all saved bs ss a1 c1 a2 c2 S) (hS : Sl w ad nd cd data) (hnd : nd ≤ 140737488351232) (hall : all.length ≤ 3000000000000) (hh : p.Hd) (hsvl : saved.length ≤ 3000000000000) (hkm : k % 10 = ((7 : Nat) : Int)) :
    Calls Try.prog 30 #[.pointer (some ⟨hb, 0, none⟩), .agg #[.int .i64 k, .int .i64 att, .int .i64 pick, .slice ad nd cd]] w (XActR base hb kind p q (stepX p all saved ⟨k, att, pick, data⟩) S w) := by
  obtain ⟨M, hM⟩ : ∃ M, 207 + p.ini.length = M := ⟨_, rfl⟩
  have hM2 : M ≤ 281474976702689 := by have := hh.il; omega
  have hM1 : 207 ≤ M := by omega
  have HMM := Lib.hid hM
  clear hM
  have hA0 := B1.start h hS k att pick
  obtain ⟨i, hi⟩ : ∃ i, i = ix att all.length := ⟨_, rfl⟩
  have hil : i < all.length := by rw [hi]; exact ix_lt _ _ h.pos
  have HIX : Hid (att % ((all.length : Nat) : Int) = (i : Int)) := by rw [hi]; exact ix_int _ _ h.pos
  have HII := Lib.hid hi
  have HKM : Hid (k % 10 = ((7 : Nat) : Int)) := hkm
  clear hi hkm
  obtain ⟨ga, hga, hac, hacm, _⟩ := XI_row h
  obtain ⟨b, hb0⟩ : ∃ b, b = bs.getD i 0 := ⟨_, rfl⟩
  obtain ⟨n, hnl⟩ : ∃ n, n = all.length := ⟨_, rfl⟩
  have hrt := Lib.hid h.rt
  have hapos := h.pos
  have HBB : Hid (bs.getD i 0 = b) := hb0.symm
  have HNL : Hid (all.length = n) := hnl.symm
  have HGA := Lib.hid hga
  rw [← hnl] at hil hac hapos hall HIX
  have hin : (i : Int) < (n : Int) := by omega
  have HIL : Hid (i < all.length) := by show _ < _; rw [HNL.out]; exact hil
  clear hb0 hnl
  have t0 : ((7 : Int) == 0) = false := by decide
  have t1 : ((7 : Int) == 1) = false := by decide
  have t2 : ((7 : Int) == 2) = false := by decide
  have t4 : ((7 : Int) == 4) = false := by decide
  have t5 : ((7 : Int) == 5) = false := by decide
  have t6 : ((7 : Int) == 6) = false := by decide
  have t7 : ((7 : Int) == 7) = true := by decide
  subst hga
  have HH := Lib.hid h
  have HS := Lib.hid hS
  clear h hS
  go_enter Try.func30, Try.ntmps30
  go_wp2_with fail
  have R0 := hA0.keep (Fr.refl _ _).drew
  go_region_held3 (fun w' => w'.cell? ⟨hb, 3, none⟩ = some (.slice (some ⟨ga, 0, none⟩) n c1) ∧ w'.cell? ⟨w.heap.size, 1, none⟩ = some (.int .i64 att) ∧ w'.cell? ⟨w.heap.size, 3, none⟩ = some (.slice ad nd cd) ∧ w'.cell? ⟨ga, i, none⟩ = some (.pointer (some ⟨b, 0, none⟩)) ∧ B1 w base hb kind p q all saved bs ss (some ⟨ga, 0, none⟩) a2 c1 c2 S ad nd cd data k att pick w')
    (first | (exact R0.held HIL.out rfl HBB.out HNL.out) | (exact (R0.keep f5).held HIL.out rfl HBB.out HNL.out) | (go_keep))
    (first | (go_at_call 36; refine (place_nat att n i _ (by omega) (by omega) HIX.out).mono ?_; rintro e w4 ⟨rfl, rfl⟩) | (go_at_call 40; refine (copied_n ad nd cd data _ R0.sl (by omega)).mono ?_; rintro e w5 ⟨ao, co, rfl, O5, f5⟩))
  have R5 := R0.keep f5
  have q0 : w5.cell? ⟨w.heap.size, 0, none⟩ = some (.int .i64 k) := by rw [cell_of R5.b1]; rfl
  have OW5 : Hid (Ow w5 (w.heap.size + 1 + 1) 5 ao co data) := by
    have e5 := O5
    rw [show (((w.alloc (.cells #[.int .i64 k, .int .i64 att, .int .i64 pick, .slice ad nd cd] 27)).alloc (.cells #[.int .i64 0, .slice none 0 0, .bool false, .bool false] 32)).drew).heap.size = w.heap.size + 1 + 1 by simp [World.drew]] at e5
    exact e5
  have H5 := Lib.hid R5
  clear O5 R5 R0 hA0 f5
  go_wp2_with fail
  refine (place_nat k 10 7 _ (by decide) (by decide) HKM.out).mono ?_
  rintro e w5 ⟨rfl, rfl⟩
  clear q0
  obtain ⟨xi, hxi⟩ : ∃ xi, xi = all.getD i ⟨[], none⟩ := ⟨_, rfl⟩
  have HXI := Lib.hid hxi
  have hs5 : Hid (XsAt w5 b 72 p S xi) := by have := H5.out.hi.hs i HIL.out; rw [HBB.out, ← hxi] at this; exact this
  clear hxi
  have hbS : b ∈ S := by rw [← HBB.out]; exact HH.out.bsS _ (getD_mem (by rw [HH.out.bl]; exact HIL.out))
  have hbw : b < w.heap.size := HH.out.lt_of hbS
  have HBS := Lib.hid hbS
  clear hbS
  have hb5 : w.heap.size + 1 + 1 ≤ w5.heap.size := by have := (Array.getElem?_eq_some_iff.1 H5.out.b2).1; omega
  go_wp2_with fail
  refine (shkMarshal_any w5 b p S xi hrt.out hh HBS.out hs5.out).mono ?_
  rintro e w6 ⟨asv, cs, rfl, o6, X6, f6⟩
  have hml : (marX p xi).length = M := by rw [marX_length _ _ hrt.out, HMM.out]
  obtain ⟨gs, has, hgs, hcs, hcm⟩ := OwX_at0 o6 (by rw [hml]; omega)
  rw [has] at o6 ⊢
  rw [HMM.out]
  have O6 := Lib.hid o6
  have HX6 := Lib.hid X6
  have HML := Lib.hid hml
  have K6 : Hid (XI 54 49 22 72 w6 base hb kind p q all saved bs ss (some ⟨ga, 0, none⟩) c1 a2 c2 S) := by
    have := H5.out.hi.upd i HIL.out (all.getD i ⟨[], none⟩) (by rw [HBB.out]; exact f6) (by rw [HBB.out, ← HXI.out]; exact HX6.out)
    rw [set_getD] at this
    exact this
  have G6 : Hid (w6.heap[w.heap.size + 1]? = some (.cells #[.int .i64 0, .slice none 0 0, .bool false, .bool false] 32 (0, 0))) := f6.obj H5.out.b2 (by simp; omega)
  have F6 : Hid (Fr S w w6) := (H5.out.fr.mono (by simp)).trans (f6.mono (fun x _ hx => by simp at hx; rw [hx]; exact HBS.out))
  have hw6 : w.heap.size ≤ w6.heap.size := F6.out.size
  have hw65 : w5.heap.size ≤ w6.heap.size := f6.size
  have S6 : Hid (Sl w6 (some ⟨gs, 0, none⟩) (0 + M) cs ([] ++ marX p xi)) := by
    have e := O6.out.sl_at HML.out
    show Sl _ _ _ _ _
    rw [Nat.zero_add, List.nil_append]
    exact e
  have HGS : Hid (gs ∉ S) := fun hm => by have := HH.out.lt_of hm; have := H5.out.fr.size; omega
  clear o6 X6 has hcs hcm hml
  have SV : Hid (Calls Try.prog 47 #[.pointer (some ⟨hb, 0, none⟩), .slice none 0 0, .slice (some ⟨gs, 0, none⟩) M cs, .nilIface] w6 (XSvR base hb kind p q [] all (saved ++ [xi]) S w6)) := by
    have e := xsave_any w6 base hb kind p q all saved bs ss _ _ _ _ S none 0 0 gs 0 cs M [] xi K6.out rfl HMM.out hM2 S6.out HGS.out (by omega) hsvl
    rw [Nat.zero_add] at e
    exact e
  go_wp2_with fail
  refine SV.out.mono ?_
  rintro e w7 ⟨a7, c7, bs', ss', a1', c1', a2', c2', S', rfl, o7, k7, f7, hsub, hn7⟩
  rw [show ([] : Bs).length = 0 from rfl]
  have O7 := Lib.hid o7
  have K7 := Lib.hid k7
  have HSUB := Lib.hid hsub
  have HN7 := Lib.hid hn7
  clear o7 k7 hsub hn7
  have G7 : Hid (w7.heap[w.heap.size + 1]? = some (.cells #[.int .i64 0, .slice none 0 0, .bool false, .bool false] 32 (0, 0))) := f7.obj G6.out (fun hm => by have := HH.out.lt_of hm; omega)
  go_wp2_with (refine wpList_store_bits rfl _ _ _ rfl (w.heap.size + 1) rfl 32 #[.int .i64 0, .slice a7 0 c7, .bool true, .bool false] #[.int .i64 0, .slice none 0 0, .bool false, .bool false] rfl G7.out rfl (by intro v hv; simp at hv; rcases hv with rfl | rfl | rfl | rfl <;> rfl) sizeRT ?_; refine Hid.out ?_)
  show wpList _ _ _ _ _ _
  have G9 := Lib.hid (setRow_heap _ _ _ (#[.int .i64 0, .slice a7 0 c7, .bool true, .bool false] : Array Value) _ _ G7.out)
  have f9 : Fr [w.heap.size + 1] w7 (w7.setRow (w.heap.size + 1) #[.int .i64 0, .slice a7 0 c7, .bool true, .bool false]) := (Fr.refl _ _).setRow _ _ (.inr (by simp))
  generalize w7.setRow (w.heap.size + 1) #[.int .i64 0, .slice a7 0 c7, .bool true, .bool false] = w9 at G9 f9 ⊢
  go_wp2_with fail
  refine bodyPost_ret (v := .agg #[.int .i64 0, .slice a7 0 c7, .bool true, .bool false]) (results_cell_row rfl _ _ (w.heap.size + 1) _ _ _ _ rfl G9.out Try.underlying32 rfl sizeRT) rfl ?_
  have F9 : Fr S w w9 := Fr_trans_new (F6.out.trans f7) f9 (by simp)
  have hsub2 : ∀ x ∈ S', x ∈ S ∨ w.heap.size + 1 + 1 ≤ x := fun x hx => (HSUB.out x hx).imp id (fun h => by omega)
  have K9 := XI_keepNew K7.out f9 (newOkX HH.out hsub2 G7.out) (newB HH.out)
  have e9 : ix k 10 = 7 := by unfold ix; have := HKM.out; omega
  have ex : (all.getD (ix att all.length) ⟨[], none⟩) = xi := by rw [← HII.out, ← HXI.out]
  have O9 : Ow w9 w6.heap.size 5 a7 c7 ([]) := O7.out.keep f9 (fun x hx => by simp; omega)
  refine ⟨a7, c7, S', ?_, ?_, ?_, F9, fun x hx => (HSUB.out x hx).imp id (fun h => by omega), fun y hy hm => ?_⟩
  · simp only [stepX, e9, ex]; rfl
  · simp only [stepX, e9, ex]; exact O9.mono (by omega)
  · simp only [stepX, e9, ex]; exact ⟨_, _, _, _, _, _, K9⟩
  · exact HN7.out y hy hm

set_option maxRecDepth 100000 in
set_option maxHeartbeats 600000 in
theorem xact_append (w : World) (base hb : Nat) (kind : Int) (p : XP) (q : NC) (all saved : List XS) (bs : List Nat) (ss : List (Nat × Nat)) (a1 a2 : Option Addr) (c1 c2 : Nat) (S : List Nat) (ad : Option Addr) (nd cd : Nat) (data : Bs) (k att pick : Int) (h : XI 54 49 22 72 w base hb kind p q all saved bs ss a1 c1 a2 c2 S) (hS : Sl w ad nd cd data) (hnd : nd ≤ 140737488351232) (hall : all.length ≤ 3000000000000) (hh : p.Hd) (hsvl : saved.length ≤ 3000000000000) (hnm : nd + (207 + p.ini.length) ≤ 140737488355328) (hkm : k % 10 = ((8 : Nat) : Int)) :
    Calls Try.prog 30 #[.pointer (some ⟨hb, 0, none⟩), .agg #[.int .i64 k, .int .i64 att, .int .i64 pick, .slice ad nd cd]] w (XActR base hb kind p q (stepX p all saved ⟨k, att, pick, data⟩) S w) := by
  obtain ⟨M, hM⟩ : ∃ M, 207 + p.ini.length = M := ⟨_, rfl⟩
  have hM2 : M ≤ 281474976702689 := by have := hh.il; omega
  have hM1 : 207 ≤ M := by omega
  have HMM := Lib.hid hM
  clear hM
  have hA0 := B1.start h hS k att pick
  obtain ⟨i, hi⟩ : ∃ i, i = ix att all.length := ⟨_, rfl⟩
  have hil : i < all.length := by rw [hi]; exact ix_lt _ _ h.pos
  have HIX : Hid (att % ((all.length : Nat) : Int) = (i : Int)) := by rw [hi]; exact ix_int _ _ h.pos
  have HII := Lib.hid hi
  have HKM : Hid (k % 10 = ((8 : Nat) : Int)) := hkm
  clear hi hkm
  obtain ⟨ga, hga, hac, hacm, _⟩ := XI_row h
  obtain ⟨b, hb0⟩ : ∃ b, b = bs.getD i 0 := ⟨_, rfl⟩
  obtain ⟨n, hnl⟩ : ∃ n, n = all.length := ⟨_, rfl⟩
  have hrt := Lib.hid h.rt
  have hapos := h.pos
  have HBB : Hid (bs.getD i 0 = b) := hb0.symm
  have HNL : Hid (all.length = n) := hnl.symm
  have HGA := Lib.hid hga
  rw [← hnl] at hil hac hapos hall HIX
  have hin : (i : Int) < (n : Int) := by omega
  have HIL : Hid (i < all.length) := by show _ < _; rw [HNL.out]; exact hil
  clear hb0 hnl
  have t0 : ((8 : Int) == 0) = false := by decide
  have t1 : ((8 : Int) == 1) = false := by decide
  have t2 : ((8 : Int) == 2) = false := by decide
  have t4 : ((8 : Int) == 4) = false := by decide
  have t5 : ((8 : Int) == 5) = false := by decide
  have t6 : ((8 : Int) == 6) = false := by decide
  have t7 : ((8 : Int) == 7) = false := by decide
  have t8 : ((8 : Int) == 8) = true := by decide
  subst hga
  have HH := Lib.hid h
  have HS := Lib.hid hS
  clear h hS
  go_enter Try.func30, Try.ntmps30
  go_wp2_with fail
  have R0 := hA0.keep (Fr.refl _ _).drew
  go_region_held3 (fun w' => w'.cell? ⟨hb, 3, none⟩ = some (.slice (some ⟨ga, 0, none⟩) n c1) ∧ w'.cell? ⟨w.heap.size, 1, none⟩ = some (.int .i64 att) ∧ w'.cell? ⟨w.heap.size, 3, none⟩ = some (.slice ad nd cd) ∧ w'.cell? ⟨ga, i, none⟩ = some (.pointer (some ⟨b, 0, none⟩)) ∧ B1 w base hb kind p q all saved bs ss (some ⟨ga, 0, none⟩) a2 c1 c2 S ad nd cd data k att pick w')
    (first | (exact R0.held HIL.out rfl HBB.out HNL.out) | (exact (R0.keep f5).held HIL.out rfl HBB.out HNL.out) | (go_keep))
    (first | (go_at_call 36; refine (place_nat att n i _ (by omega) (by omega) HIX.out).mono ?_; rintro e w4 ⟨rfl, rfl⟩) | (go_at_call 40; refine (copied_n ad nd cd data _ R0.sl (by omega)).mono ?_; rintro e w5 ⟨ao, co, rfl, O5, f5⟩))
  have R5 := R0.keep f5
  have q0 : w5.cell? ⟨w.heap.size, 0, none⟩ = some (.int .i64 k) := by rw [cell_of R5.b1]; rfl
  have OW5 : Hid (Ow w5 (w.heap.size + 1 + 1) 5 ao co data) := by
    have e5 := O5
    rw [show (((w.alloc (.cells #[.int .i64 k, .int .i64 att, .int .i64 pick, .slice ad nd cd] 27)).alloc (.cells #[.int .i64 0, .slice none 0 0, .bool false, .bool false] 32)).drew).heap.size = w.heap.size + 1 + 1 by simp [World.drew]] at e5
    exact e5
  have H5 := Lib.hid R5
  clear O5 R5 R0 hA0 f5
  go_wp2_with fail
  refine (place_nat k 10 8 _ (by decide) (by decide) HKM.out).mono ?_
  rintro e w5 ⟨rfl, rfl⟩
  clear q0
  obtain ⟨xi, hxi⟩ : ∃ xi, xi = all.getD i ⟨[], none⟩ := ⟨_, rfl⟩
  have HXI := Lib.hid hxi
  have hs5 : Hid (XsAt w5 b 72 p S xi) := by have := H5.out.hi.hs i HIL.out; rw [HBB.out, ← hxi] at this; exact this
  clear hxi
  have hbS : b ∈ S := by rw [← HBB.out]; exact HH.out.bsS _ (getD_mem (by rw [HH.out.bl]; exact HIL.out))
  have hbw : b < w.heap.size := HH.out.lt_of hbS
  have HBS := Lib.hid hbS
  clear hbS
  have hb5 : w.heap.size + 1 + 1 ≤ w5.heap.size := by have := (Array.getElem?_eq_some_iff.1 H5.out.b2).1; omega
  go_wp2_with fail
  have hs5R : Hid (XsAt w5 b 72 p (List.range' (w.heap.size + 1 + 1) (w5.heap.size - (w.heap.size + 1 + 1)) ++ S) xi) := by
    have e := ((HH.out.hs i HIL.out).more (S' := List.range' (w.heap.size + 1 + 1) (w5.heap.size - (w.heap.size + 1 + 1)) ++ S) (fun k hk => by rcases List.mem_append.1 hk with hk | hk; exact .inr (by have := (List.mem_range'_1.1 hk).1; omega); exact .inl hk)).keep H5.out.fr (by simp) (by simp)
    rw [HBB.out, ← HXI.out] at e
    exact e
  refine (shkAppend_any w5 b p _ xi hrt.out hh (by simp [HBS.out]) hs5R.out ao nd co (w.heap.size + 1 + 1) data HS.out.len OW5.out hb5 (by omega) (fun k h1 h2 => by simp only [List.mem_append, List.mem_range'_1]; left; omega) (by omega) (by rw [Nat.add_assoc]; exact hnm)).mono ?_
  rintro e w6 ⟨asv, cs, w6a, rfl, o6, X6, f6a, b6⟩
  have hlen : (data ++ marX p xi).length = nd + M := by rw [List.length_append, HS.out.len, marX_length _ _ hrt.out, HMM.out]
  obtain ⟨gs, has, hgs, hcs, hcm⟩ := OwX_at0 o6 (by rw [hlen]; omega)
  rw [has] at o6 ⊢
  rw [HMM.out]
  have O6 := Lib.hid o6
  have HX6 : Hid (XsAt w6 b 72 p S xi) := X6.more (fun k hk => .inl (by simp [hk]))
  have HLEN := Lib.hid hlen
  have F6b : Fr [b] w w6 := ((H5.out.fr.mono (by simp)).trans f6a : Fr [b] w w6a).of_belowB b6 (by omega)
  have K6 : Hid (XI 54 49 22 72 w6 base hb kind p q all saved bs ss (some ⟨ga, 0, none⟩) c1 a2 c2 S) := by
    have := HH.out.upd i HIL.out (all.getD i ⟨[], none⟩) (by rw [HBB.out]; exact F6b) (by rw [HBB.out, ← HXI.out]; exact HX6.out)
    rw [set_getD] at this
    exact this
  have G6 : Hid (w6.heap[w.heap.size + 1]? = some (.cells #[.int .i64 0, .slice none 0 0, .bool false, .bool false] 32 (0, 0))) := by
    have e1 := f6a.obj H5.out.b2 (show w.heap.size + 1 ∉ [b] by simp; omega)
    show _ = _
    rw [b6.block (w.heap.size + 1) (by omega)]
    exact e1
  have q6 : w6.cell? ⟨w.heap.size, 3, none⟩ = some (.slice ad nd cd) := by
    have e1 := f6a.obj H5.out.b1 (show w.heap.size ∉ [b] by simp; omega)
    have e2 : w6.heap[w.heap.size]? = _ := (b6.block w.heap.size (by omega)).trans e1
    rw [cell_of e2]
    rfl
  have F6 : Hid (Fr S w w6) := F6b.mono (fun x _ hx => by simp at hx; rw [hx]; exact HBS.out)
  have hw6 : w.heap.size ≤ w6.heap.size := F6.out.size
  have hw65 : w5.heap.size ≤ w6.heap.size := Nat.le_trans f6a.size b6.size
  have S6 : Hid (Sl w6 (some ⟨gs, 0, none⟩) (nd + M) cs (data ++ marX p xi)) := O6.out.sl_at HLEN.out
  have HGS : Hid (gs ∉ S) := fun hm => by have := HH.out.lt_of hm; omega
  clear o6 X6 has hcs hcm hlen
  have SV : Hid (Calls Try.prog 47 #[.pointer (some ⟨hb, 0, none⟩), .slice ad nd cd, .slice (some ⟨gs, 0, none⟩) (nd + M) cs, .nilIface] w6 (XSvR base hb kind p q data all (saved ++ [xi]) S w6)) := xsave_any w6 base hb kind p q all saved bs ss _ _ _ _ S ad nd cd gs 0 cs M data xi K6.out HS.out.len HMM.out hM2 S6.out HGS.out (by omega) hsvl
  go_wp2_with fail
  refine SV.out.mono ?_
  rintro e w7 ⟨a7, c7, bs', ss', a1', c1', a2', c2', S', rfl, o7, k7, f7, hsub, hn7⟩
  rw [HS.out.len]
  have O7 := Lib.hid o7
  have K7 := Lib.hid k7
  have HSUB := Lib.hid hsub
  have HN7 := Lib.hid hn7
  clear o7 k7 hsub hn7
  have G7 : Hid (w7.heap[w.heap.size + 1]? = some (.cells #[.int .i64 0, .slice none 0 0, .bool false, .bool false] 32 (0, 0))) := f7.obj G6.out (fun hm => by have := HH.out.lt_of hm; omega)
  go_wp2_with (refine wpList_store_bits rfl _ _ _ rfl (w.heap.size + 1) rfl 32 #[.int .i64 0, .slice a7 nd c7, .bool true, .bool false] #[.int .i64 0, .slice none 0 0, .bool false, .bool false] rfl G7.out rfl (by intro v hv; simp at hv; rcases hv with rfl | rfl | rfl | rfl <;> rfl) sizeRT ?_; refine Hid.out ?_)
  show wpList _ _ _ _ _ _
  have G9 := Lib.hid (setRow_heap _ _ _ (#[.int .i64 0, .slice a7 nd c7, .bool true, .bool false] : Array Value) _ _ G7.out)
  have f9 : Fr [w.heap.size + 1] w7 (w7.setRow (w.heap.size + 1) #[.int .i64 0, .slice a7 nd c7, .bool true, .bool false]) := (Fr.refl _ _).setRow _ _ (.inr (by simp))
  generalize w7.setRow (w.heap.size + 1) #[.int .i64 0, .slice a7 nd c7, .bool true, .bool false] = w9 at G9 f9 ⊢
  go_wp2_with fail
  refine bodyPost_ret (v := .agg #[.int .i64 0, .slice a7 nd c7, .bool true, .bool false]) (results_cell_row rfl _ _ (w.heap.size + 1) _ _ _ _ rfl G9.out Try.underlying32 rfl sizeRT) rfl ?_
  have F9 : Fr S w w9 := Fr_trans_new (F6.out.trans f7) f9 (by simp)
  have hsub2 : ∀ x ∈ S', x ∈ S ∨ w.heap.size + 1 + 1 ≤ x := fun x hx => (HSUB.out x hx).imp id (fun h => by omega)
  have K9 := XI_keepNew K7.out f9 (newOkX HH.out hsub2 G7.out) (newB HH.out)
  have e9 : ix k 10 = 8 := by unfold ix; have := HKM.out; omega
  have ex : (all.getD (ix att all.length) ⟨[], none⟩) = xi := by rw [← HII.out, ← HXI.out]
  have O9 : Ow w9 w6.heap.size 5 a7 c7 (data) := O7.out.keep f9 (fun x hx => by simp; omega)
  refine ⟨a7, c7, S', ?_, ?_, ?_, F9, fun x hx => (HSUB.out x hx).imp id (fun h => by omega), fun y hy hm => ?_⟩
  · simp only [stepX, e9, ex]; rw [HS.out.len]
  · simp only [stepX, e9, ex]; exact O9.mono (by omega)
  · simp only [stepX, e9, ex]; exact ⟨_, _, _, _, _, _, K9⟩
  · exact HN7.out y hy hm

end Go.Proofs.Ytkijnpjefccepaa
end
