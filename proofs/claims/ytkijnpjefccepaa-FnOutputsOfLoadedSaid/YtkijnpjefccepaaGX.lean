/- Contracts and lemmas, merged: Xs, MarX, UnmX, Xi, Le. Their conditions stand in each. -/
import Derived.Test.YtkijnpjefccepaaGA
import Derived.Test.YtkijnpjefccepaaGB
import Derived.Test.YtkijnpjefccepaaGC
import Derived.Test.YtkijnpjefccepaaGG
import Derived.Test.YtkijnpjefccepaaGH
import Derived.Deep.RegionLaw
import Derived.Laws.BytesArg
import Derived.Lib.BitFns
section
namespace Go.Sha
open Go.RowKit
theorem Ow.off0 {w : World} {base e c : Nat} {x : Addr} {l : Bs} (h : Ow w base e (some x) c l) : x.off = 0 := h.block.2.1
/-- rate, size, domain, the mark of its saved states, the block of name and customization, the bytes that are absorbed first -/
structure XP where
  r : Nat
  o : Nat
  ds : UInt8
  mg : UInt8
  ini : Bs
  hd : Bs
structure XP.Ok (p : XP) : Prop where
  rpos : 0 < p.r
  rle : p.r ≤ 168
  opos : 0 < p.o
  ole : p.o ≤ 64
  dm : (p.ds = 31 ∧ p.mg = 9) ∨ (p.ds = 4 ∧ p.mg = 10)
/-- what has been written; how many bytes have been read, if it is being read -/
structure XS where
  wr : Bs
  rd : Option Nat
def xD (p : XP) (x : XS) : Dg := match x.rd with
  | none => absorb (newD p.r p.o p.ds) x.wr
  | some k => (squeeze k (padD (absorb (newD p.r p.o p.ds) x.wr))).2
theorem xD_none (p : XP) (l : Bs) : xD p ⟨l, none⟩ = absorb (newD p.r p.o p.ds) l := rfl
theorem xD_some (p : XP) (l : Bs) (k : Nat) : xD p ⟨l, some k⟩ = (squeeze k (padD (absorb (newD p.r p.o p.ds) l))).2 := rfl
/-- the bytes that a read of m bytes gives -/
def XS.pos (x : XS) : Nat := x.rd.getD 0
def xOut (p : XP) (x : XS) (m : Nat) : Bs := (xof p.r p.o p.ds x.wr (x.pos + m)).drop x.pos
def XS.read (x : XS) (m : Nat) : XS := ⟨x.wr, some (x.pos + m)⟩
theorem xOut_length (p : XP) (x : XS) (m : Nat) : (xOut p x m).length = m := by simp [xOut, xof_length]
theorem XP.Ok.abs {p : XP} (h : p.Ok) (l : Bs) : (absorb (newD p.r p.o p.ds) l).Ok ∧ (absorb (newD p.r p.o p.ds) l).rate = p.r ∧ (absorb (newD p.r p.o p.ds) l).ds = p.ds ∧ (absorb (newD p.r p.o p.ds) l).out = p.o ∧ (absorb (newD p.r p.o p.ds) l).st = 0 := absorb_ok (newD_ok p.r p.o p.ds h.rpos h.rle) l
theorem XP.Ok.sq {p : XP} (h : p.Ok) (l : Bs) (k : Nat) : (xD p ⟨l, some k⟩).Sq ∧ (xD p ⟨l, some k⟩).rate = p.r ∧ (xD p ⟨l, some k⟩).ds = p.ds ∧ (xD p ⟨l, some k⟩).out = p.o ∧ (xD p ⟨l, some k⟩).st = 1 := by
  have h1 := h.abs l
  have h2 := padD_sq h1.1
  have h3 := squeeze_sq k _ h2.1
  rw [xD_some]
  exact ⟨h3.1, by rw [h3.2.1, h2.2.2.1, h1.2.1], by rw [h3.2.2.1, h2.2.2.2.1, h1.2.2.1], by rw [h3.2.2.2.1, h2.2.2.2.2.1, h1.2.2.2.1], by rw [h3.2.2.2.2, h2.2.2.2.2.2]⟩
/-- what is known of every state -/
theorem XP.Ok.any {p : XP} (h : p.Ok) (x : XS) : (xD p x).a.length = 200 ∧ (xD p x).rate = p.r ∧ (xD p x).ds = p.ds ∧ (xD p x).out = p.o ∧ (xD p x).n ≤ p.r ∧ ((xD p x).st = 0 ∨ (xD p x).st = 1) := by
  obtain ⟨l, k⟩ := x
  cases k with
  | none =>
    have h1 := h.abs l
    rw [xD_none]
    exact ⟨h1.1.len, h1.2.1, h1.2.2.1, h1.2.2.2.1, by have := h1.1.lt; rw [h1.2.1] at this; omega, .inl h1.2.2.2.2⟩
  | some k =>
    have h1 := h.sq l k
    exact ⟨h1.1.len, h1.2.1, h1.2.2.1, h1.2.2.2.1, by have := h1.1.le; rw [h1.2.1] at this; omega, .inr h1.2.2.2.2⟩
/-- a read gives the next bytes -/
theorem xRead_none (p : XP) (l : Bs) (m : Nat) : (squeeze m (padD (absorb (newD p.r p.o p.ds) l))).1 = xOut p ⟨l, none⟩ m ∧ (squeeze m (padD (absorb (newD p.r p.o p.ds) l))).2 = xD p (XS.read ⟨l, none⟩ m) := by
  refine ⟨?_, ?_⟩
  · simp [xOut, XS.pos, xof]
  · simp [XS.read, XS.pos, xD_some]
theorem xRead_some (p : XP) (l : Bs) (k m : Nat) : (squeeze m (xD p ⟨l, some k⟩)).1 = xOut p ⟨l, some k⟩ m ∧ (squeeze m (xD p ⟨l, some k⟩)).2 = xD p (XS.read ⟨l, some k⟩ m) := by
  have h := squeeze_add k m (padD (absorb (newD p.r p.o p.ds) l))
  refine ⟨?_, ?_⟩
  · simp only [xOut, XS.pos, xof, Option.getD_some]
    rw [h, List.drop_left' (squeeze_length _ _), xD_some]
  · simp only [XS.read, XS.pos, Option.getD_some, xD_some]
    rw [h]
/-- two reads are one -/
theorem xOut_add (p : XP) (x : XS) (m n : Nat) : xOut p x (m + n) = xOut p x m ++ xOut p (x.read m) n := by
  have h := squeeze_add (x.rd.getD 0 + m) n (padD (absorb (newD p.r p.o p.ds) x.wr))
  simp only [xOut, XS.read, XS.pos, xof, Option.getD_some]
  rw [← Nat.add_assoc, h]
  simp only
  rw [List.drop_append_of_le_length (by rw [squeeze_length]; omega), List.drop_left' (squeeze_length _ _)]
/-- the parameters of the zero value -/
def zP : XP := ⟨136, 64, 31, 9, [], []⟩
/-- an extendable output function lies in block b; its block of name and customization lies in no block of S -/
def XsAt (w : World) (b T : Nat) (p : XP) (S : List Nat) (x : XS) : Prop :=
  ∃ ai ci, Sl w ai p.ini.length ci p.ini ∧ (∀ y, ai = some y → p.ini.length ≠ 0 → y.block ∉ S ∧ y.off = 0) ∧
    (DgAt w b T [.slice ai p.ini.length ci] (xD p x) ∨ (p = zP ∧ x = ⟨[], none⟩ ∧ DgAt w b T [.slice ai p.ini.length ci] (newD 0 0 0)))
theorem XsAt.lt {w : World} {b T : Nat} {p : XP} {S : List Nat} {x : XS} (h : XsAt w b T p S x) : b < w.heap.size := by
  obtain ⟨ai, ci, _, _, h | ⟨_, _, h⟩⟩ := h <;> exact h.lt
/-- other blocks turn, none of them that of name and customization -/
theorem XsAt.keep {R S : List Nat} {w w' : World} {b T : Nat} {p : XP} {x : XS} (h : XsAt w b T p S x) (hf : Fr R w w') (hb : b ∉ R) (hR : ∀ k ∈ R, k ∈ S ∨ w.heap.size ≤ k) : XsAt w' b T p S x := by
  obtain ⟨ai, ci, h1, h2, h3⟩ := h
  refine ⟨ai, ci, h1.keep hf (fun y hy hn hm => ?_), h2, ?_⟩
  · rcases hR _ hm with hs | hs
    · exact (h2 y hy hn).1 hs
    · have := h1.lt (x := y) hy hn
      omega
  · rcases h3 with h3 | ⟨e1, e2, h3⟩
    · exact .inl (h3.keep hf hb)
    · exact .inr ⟨e1, e2, h3.keep hf hb⟩
/-- blocks turn whose first cell is no byte -/
theorem XsAt.keep0c {R S : List Nat} {w w' : World} {b T : Nat} {p : XP} {x : XS} (h : XsAt w b T p S x) (hf : Fr R w w') (hb : b ∉ R) (hR : ∀ k ∈ R, ∀ v, w.cell? ⟨k, 0, none⟩ ≠ some (.int .u8 v)) : XsAt w' b T p S x := by
  obtain ⟨ai, ci, h1, h2, h3⟩ := h
  refine ⟨ai, ci, h1.keep hf (fun y hy hn hm => ?_), h2, ?_⟩
  · rcases h1.cel with h0 | ⟨b', o', hb', hc⟩
    · exact hn h0
    · rw [hb'] at hy
      simp only [Option.some.injEq] at hy
      have h4 := (h2 ⟨b', o', none⟩ hb' hn).2
      simp only at h4
      subst h4
      subst hy
      exact hR _ hm _ (hc 0 (by omega))
  · rcases h3 with h3 | ⟨e1, e2, h3⟩
    · exact .inl (h3.keep hf hb)
    · exact .inr ⟨e1, e2, h3.keep hf hb⟩
/-- S may grow by new blocks -/
theorem XsAt.more {S S' : List Nat} {w : World} {b T : Nat} {p : XP} {x : XS} (h : XsAt w b T p S x) (hS : ∀ k ∈ S', k ∈ S ∨ w.heap.size ≤ k) : XsAt w b T p S' x := by
  obtain ⟨ai, ci, h1, h2, h3⟩ := h
  refine ⟨ai, ci, h1, fun y hy hn => ⟨fun hm => ?_, (h2 y hy hn).2⟩, h3⟩
  rcases hS _ hm with hs | hs
  · exact (h2 y hy hn).1 hs
  · have := h1.lt (x := y) hy hn
    omega
end Go.Sha
end

section
namespace Go.Proofs.Ytkijnpjefccepaa
open Go.ChangeShapes Go.WideShapes Go.ChangeAt Go.RowKit Go.Sha

attribute [local irreducible] wpStill in
set_option maxRecDepth 100000 in
set_option maxHeartbeats 1600000 in
theorem appendBinary_shk (w : World) (b T : Nat) (ext : List Value) (d : Dg) (a0 : Option Addr) (n0 c0 base : Nat) (L0 : Bs) (h : DgAt w b T ext d) (hds : d.ds = 31) (hl : L0.length = n0) (hO : Ow w base 5 a0 c0 L0) (hb : base ≤ w.heap.size) (hbb : b < base) (hn : n0 + 207 ≤ 140737488355328) (hr : d.rate ≤ 255) (hdn : d.n ≤ 255) (hst : d.st ≤ 255) :
    Calls Try.prog 79 #[.pointer (some ⟨b, 0, none⟩), .slice a0 n0 c0] w fun e w' => ∃ a c, e = .returned (.tuple #[.slice a (n0 + 207) c, .nilIface]) ∧ Ow w' base 5 a c (L0 ++ mar 9 d) ∧ Below base w w' ∧ c0 ≤ c := by
  obtain ⟨i0, hi, hz0, hz1, hz2⟩ := info_parts info5
  obtain ⟨da, dn, dr, dd, dou, dst⟩ := d
  simp only at hds hr hdn hst
  subst hds
  obtain ⟨ub, rfl⟩ : ∃ ub : UInt8, dr = ub.toNat := ⟨UInt8.ofNat dr, by rw [UInt8.toNat_ofNat']; omega⟩
  obtain ⟨un, rfl⟩ : ∃ un : UInt8, dn = un.toNat := ⟨UInt8.ofNat dn, by rw [UInt8.toNat_ofNat']; omega⟩
  obtain ⟨us, rfl⟩ : ∃ us : UInt8, dst = us.toNat := ⟨UInt8.ofNat dst, by rw [UInt8.toNat_ofNat']; omega⟩
  have q1 : w.cell? ⟨b, 202, none⟩ = some (.int .u8 31) := h.cds
  have hda := Lib.hid h.1
  have t6 : ((31 : Int) == 6) = false := by decide
  have t31 : ((31 : Int) == 31) = true := by decide
  have HD := Lib.hid h
  have HO := Lib.hid hO
  have HN := Lib.hid hl
  have HB : Hid (Below base w w) := Below.refl _ _
  clear h hO hl
  obtain ⟨xs, hxs⟩ : ∃ xs, xs = L0.map bv := ⟨_, rfl⟩
  obtain ⟨ys, hys⟩ : ∃ ys, ys = ([115, 104, 97, 9]).map bv := ⟨_, rfl⟩
  have O1 : Hid ((w).ownsRow base 5 1 (.slice a0 n0 c0) n0 xs) := by rw [hxs]; exact Ow.row' HO.out HN.out
  have Y1 : Hid (Src Try.prog 1 9 (.string ⟨#[115, 104, 97, 9]⟩) 4 ys (w)) := by rw [hys]; exact Src.ofString w Try.underlying9 ⟨#[115, 104, 97, 9]⟩
  have HX := Lib.hid (And.intro hxs hys)
  clear hxs hys
  have X1 : Hid (n0 + 4 ≤ maxLen) := by show _ ≤ _; unfold maxLen; omega
  have X2 : Hid ((n0 + 4) * 1 ≤ 140737488355328) := by show _ ≤ _; omega
  have X3 : Hid (base ≤ (w).heap.size) := by show _ ≤ _; have := HB.out.size; omega
  go_enter Try.func79, Try.ntmps79
  go_wp2_with (at_builtin; refine wpList_append_srcC _ rfl _ _ 22 9 rfl base 5 i0 (.int .u8 0) 1 1 Try.underlying22 hi hz0 hz1 hz2 rfl a0 n0 c0 xs rfl O1.out _ 4 ys rfl Y1.out X1.out (fit_of X2.out) X3.out ?_)
  intro a1 c1 w1 ho hg hcc
  have HC1 := Lib.hid hcc
  clear hcc
  have HB' : Below base w w1 := HB.out.trans ((((Fr.refl _ _).grown hg (fun q hq => by rw [hq]; exact .inr (by simp))) : Fr (Value.slice a0 n0 c0).ownBlock.toList (w) w1).belowB base X3.out HO.out.own_ge)
  have HO' : Ow w1 base 5 a1 c1 (L0 ++ [115, 104, 97, 9]) := Ow.of ho (by rw [List.length_append, HN.out]; rfl) (by rw [HX.out.1, HX.out.2, List.map_append])
  have HN' : (L0 ++ [115, 104, 97, 9]).length = n0 + 4 := by rw [List.length_append, HN.out]; rfl
  have HD' := HD.out.below ((((Fr.refl _ _).grown hg (fun q hq => by rw [hq]; exact .inr (by simp))) : Fr (Value.slice a0 n0 c0).ownBlock.toList (w) w1).belowB base X3.out HO.out.own_ge) hbb
  clear ho hg O1 Y1 X1 X2 X3 HX HO HN HB HD
  obtain ⟨L1, hL1⟩ : ∃ L1, L1 = L0 ++ [115, 104, 97, 9] := ⟨_, rfl⟩
  rw [← hL1] at HO' HN'
  generalize hn1 : n0 + 4 = n1 at HN' ⊢
  have hnb1 : n1 + 203 ≤ 140737488355328 := by omega
  have HL1 := Lib.hid (And.intro hL1 hn1)
  have HO := Lib.hid HO'
  have HN := Lib.hid HN'
  have HB := Lib.hid HB'
  have HD := Lib.hid HD'
  clear HO' HN' HB' HD' hL1 hn1
  clear q1
  have q2 := HD.out.crate
  simp only at q2
  have S1 := Lib.hid (Sl.one w1 ub 5)
  have HO1 := Lib.hid (HO.out.keep0 ((Fr.refl _ _).alloc (.cells #[.int .u8 ub.toNat] 5)))
  have HB1 : Hid (Below base w (w1.alloc (.cells #[.int .u8 ub.toNat] 5))) := HB.out.alloc (by have := HB.out.size; omega) _
  have HD1 := Lib.hid (HD.out.keep ((Fr.refl [] _).alloc (.cells #[.int .u8 ub.toNat] 5)) (by simp))
  clear HO HB HD
  have HO := HO1
  have HB := HB1
  have HD := HD1
  clear HO1 HB1 HD1
  obtain ⟨xs, hxs⟩ : ∃ xs, xs = L1.map bv := ⟨_, rfl⟩
  obtain ⟨ys, hys⟩ : ∃ ys, ys = ([ub]).map bv := ⟨_, rfl⟩
  have O1 : Hid ((w1.alloc (.cells #[.int .u8 ub.toNat] 5)).ownsRow base 5 1 (.slice a1 n1 c1) n1 xs) := by rw [hxs]; exact Ow.row' HO.out HN.out
  have Y1 : Hid (Src Try.prog 1 22 (.slice (some ⟨w1.heap.size, 0, none⟩) 1 1) 1 ys (w1.alloc (.cells #[.int .u8 ub.toNat] 5))) := by rw [hys]; exact S1.out.src Try.underlying22
  have HX := Lib.hid (And.intro hxs hys)
  clear hxs hys
  have X1 : Hid (n1 + 1 ≤ maxLen) := by show _ ≤ _; unfold maxLen; omega
  have X2 : Hid ((n1 + 1) * 1 ≤ 140737488355328) := by show _ ≤ _; omega
  have X3 : Hid (base ≤ (w1.alloc (.cells #[.int .u8 ub.toNat] 5)).heap.size) := by show _ ≤ _; have := HB.out.size; omega
  go_wp2_with (at_builtin; refine wpList_append_srcC _ rfl _ _ 22 22 rfl base 5 i0 (.int .u8 0) 1 1 Try.underlying22 hi hz0 hz1 hz2 rfl a1 n1 c1 xs rfl O1.out _ 1 ys rfl Y1.out X1.out (fit_of X2.out) X3.out ?_)
  intro a2 c2 w2 ho hg hcc
  have HC2 := Lib.hid hcc
  clear hcc
  have HB' : Below base w w2 := HB.out.trans ((((Fr.refl _ _).grown hg (fun q hq => by rw [hq]; exact .inr (by simp))) : Fr (Value.slice a1 n1 c1).ownBlock.toList (w1.alloc (.cells #[.int .u8 ub.toNat] 5)) w2).belowB base X3.out HO.out.own_ge)
  have HO' : Ow w2 base 5 a2 c2 (L1 ++ [ub]) := Ow.of ho (by rw [List.length_append, HN.out]; rfl) (by rw [HX.out.1, HX.out.2, List.map_append])
  have HN' : (L1 ++ [ub]).length = n1 + 1 := by rw [List.length_append, HN.out]; rfl
  have HD' := HD.out.below ((((Fr.refl _ _).grown hg (fun q hq => by rw [hq]; exact .inr (by simp))) : Fr (Value.slice a1 n1 c1).ownBlock.toList (w1.alloc (.cells #[.int .u8 ub.toNat] 5)) w2).belowB base X3.out HO.out.own_ge) hbb
  clear ho hg O1 Y1 X1 X2 X3 HX HO HN HB HD
  obtain ⟨L2, hL2⟩ : ∃ L2, L2 = L1 ++ [ub] := ⟨_, rfl⟩
  rw [← hL2] at HO' HN'
  generalize hn2 : n1 + 1 = n2 at HN' ⊢
  have hnb2 : n2 + 202 ≤ 140737488355328 := by omega
  have HL2 := Lib.hid (And.intro hL2 hn2)
  have HO := Lib.hid HO'
  have HN := Lib.hid HN'
  have HB := Lib.hid HB'
  have HD := Lib.hid HD'
  clear HO' HN' HB' HD' hL2 hn2
  clear q2 S1
  have S2 := Lib.hid HD.out.sl
  simp only at S2
  obtain ⟨xs, hxs⟩ : ∃ xs, xs = L2.map bv := ⟨_, rfl⟩
  obtain ⟨ys, hys⟩ : ∃ ys, ys = (da).map bv := ⟨_, rfl⟩
  have O1 : Hid ((w2).ownsRow base 5 1 (.slice a2 n2 c2) n2 xs) := by rw [hxs]; exact Ow.row' HO.out HN.out
  have Y1 : Hid (Src Try.prog 1 22 (.slice (some ⟨b, 0, none⟩) 200 200) 200 ys (w2)) := by rw [hys]; exact S2.out.src Try.underlying22
  have HX := Lib.hid (And.intro hxs hys)
  clear hxs hys
  have X1 : Hid (n2 + 200 ≤ maxLen) := by show _ ≤ _; unfold maxLen; omega
  have X2 : Hid ((n2 + 200) * 1 ≤ 140737488355328) := by show _ ≤ _; omega
  have X3 : Hid (base ≤ (w2).heap.size) := by show _ ≤ _; have := HB.out.size; omega
  go_wp2_with (at_builtin; refine wpList_append_srcC _ rfl _ _ 22 22 rfl base 5 i0 (.int .u8 0) 1 1 Try.underlying22 hi hz0 hz1 hz2 rfl a2 n2 c2 xs rfl O1.out _ 200 ys rfl Y1.out X1.out (fit_of X2.out) X3.out ?_)
  intro a3 c3 w3 ho hg hcc
  have HC3 := Lib.hid hcc
  clear hcc
  have HB' : Below base w w3 := HB.out.trans ((((Fr.refl _ _).grown hg (fun q hq => by rw [hq]; exact .inr (by simp))) : Fr (Value.slice a2 n2 c2).ownBlock.toList (w2) w3).belowB base X3.out HO.out.own_ge)
  have HO' : Ow w3 base 5 a3 c3 (L2 ++ da) := Ow.of ho (by rw [List.length_append, HN.out, hda.out]) (by rw [HX.out.1, HX.out.2, List.map_append])
  have HN' : (L2 ++ da).length = n2 + 200 := by rw [List.length_append, HN.out, hda.out]
  have HD' := HD.out.below ((((Fr.refl _ _).grown hg (fun q hq => by rw [hq]; exact .inr (by simp))) : Fr (Value.slice a2 n2 c2).ownBlock.toList (w2) w3).belowB base X3.out HO.out.own_ge) hbb
  clear ho hg O1 Y1 X1 X2 X3 HX HO HN HB HD
  obtain ⟨L3, hL3⟩ : ∃ L3, L3 = L2 ++ da := ⟨_, rfl⟩
  rw [← hL3] at HO' HN'
  generalize hn3 : n2 + 200 = n3 at HN' ⊢
  have hnb3 : n3 + 2 ≤ 140737488355328 := by omega
  have HL3 := Lib.hid (And.intro hL3 hn3)
  have HO := Lib.hid HO'
  have HN := Lib.hid HN'
  have HB := Lib.hid HB'
  have HD := Lib.hid HD'
  clear HO' HN' HB' HD' hL3 hn3
  clear S2
  go_wp2_with fail
  have q3 := HD.out.cn
  have q4 := HD.out.cst
  simp only at q3 q4
  have cv1 : IntKind.u8.wrap (un.toNat : Int) = (un.toNat : Int) := wrap_u8 _ un.toNat_lt
  have cv2 : IntKind.u8.wrap (us.toNat : Int) = (us.toNat : Int) := wrap_u8 _ us.toNat_lt
  have S3 : Hid (Sl ((w3.alloc (.cells #[.int .u8 un.toNat, .int .u8 us.toNat] 5)).drew) (some ⟨w3.heap.size, 0, none⟩) 2 2 [un, us]) := (Sl.two w3 un us 5).keep0 (Fr.refl _ _).drew
  have HO1 := Lib.hid (HO.out.keep0 ((Fr.refl _ _).alloc (.cells #[.int .u8 un.toNat, .int .u8 us.toNat] 5)))
  have HB1 : Hid (Below base w (w3.alloc (.cells #[.int .u8 un.toNat, .int .u8 us.toNat] 5))) := HB.out.alloc (by have := HB.out.size; omega) _
  have HD1 := Lib.hid (HD.out.keep ((Fr.refl [] _).alloc (.cells #[.int .u8 un.toNat, .int .u8 us.toNat] 5)) (by simp))
  clear HO HB HD
  have HO := HO1
  have HB := HB1
  have HD := HD1
  clear HO1 HB1 HD1
  have HO3 : Hid (Ow ((w3.alloc (.cells #[.int .u8 un.toNat, .int .u8 us.toNat] 5)).drew) base 5 a3 c3 L3) := HO
  have HB3 : Hid (Below base w ((w3.alloc (.cells #[.int .u8 un.toNat, .int .u8 us.toNat] 5)).drew)) := Below.drew1 HB.out
  have HD3 : Hid (DgAt ((w3.alloc (.cells #[.int .u8 un.toNat, .int .u8 us.toNat] 5)).drew) b T ext _) := HD
  clear HD HO HB
  have HD := HD3
  have HO := HO3
  have HB := HB3
  clear HD3 HO3 HB3
  obtain ⟨xs, hxs⟩ : ∃ xs, xs = L3.map bv := ⟨_, rfl⟩
  obtain ⟨ys, hys⟩ : ∃ ys, ys = ([un, us]).map bv := ⟨_, rfl⟩
  have O1 : Hid (((w3.alloc (.cells #[.int .u8 un.toNat, .int .u8 us.toNat] 5)).drew).ownsRow base 5 1 (.slice a3 n3 c3) n3 xs) := by rw [hxs]; exact Ow.row' HO.out HN.out
  have Y1 : Hid (Src Try.prog 1 22 (.slice (some ⟨w3.heap.size, 0, none⟩) 2 2) 2 ys ((w3.alloc (.cells #[.int .u8 un.toNat, .int .u8 us.toNat] 5)).drew)) := by rw [hys]; exact S3.out.src Try.underlying22
  have HX := Lib.hid (And.intro hxs hys)
  clear hxs hys
  have X1 : Hid (n3 + 2 ≤ maxLen) := by show _ ≤ _; unfold maxLen; omega
  have X2 : Hid ((n3 + 2) * 1 ≤ 140737488355328) := by show _ ≤ _; omega
  have X3 : Hid (base ≤ ((w3.alloc (.cells #[.int .u8 un.toNat, .int .u8 us.toNat] 5)).drew).heap.size) := by show _ ≤ _; have := HB.out.size; omega
  go_region_law ((refine step_append_srcC _ rfl _ _ 22 22 rfl base 5 i0 (.int .u8 0) 1 1 Try.underlying22 hi hz0 hz1 hz2 rfl a3 n3 c3 xs rfl O1.out _ 2 ys rfl Y1.out X1.out (fit_of X2.out) X3.out ?_; intro a4 c4 w4 ho hg hcc))
  all_goals
    have HC4 := Lib.hid hcc
    clear hcc
    have HB' : Below base w w4 := HB.out.trans ((((Fr.refl _ _).grown hg (fun q hq => by rw [hq]; exact .inr (by simp))) : Fr (Value.slice a3 n3 c3).ownBlock.toList ((w3.alloc (.cells #[.int .u8 un.toNat, .int .u8 us.toNat] 5)).drew) w4).belowB base X3.out HO.out.own_ge)
    have HO' : Ow w4 base 5 a4 c4 (L3 ++ [un, us]) := Ow.of ho (by rw [List.length_append, HN.out]; rfl) (by rw [HX.out.1, HX.out.2, List.map_append])
    have HN' : (L3 ++ [un, us]).length = n3 + 2 := by rw [List.length_append, HN.out]; rfl
    have HD' := HD.out.below ((((Fr.refl _ _).grown hg (fun q hq => by rw [hq]; exact .inr (by simp))) : Fr (Value.slice a3 n3 c3).ownBlock.toList ((w3.alloc (.cells #[.int .u8 un.toNat, .int .u8 us.toNat] 5)).drew) w4).belowB base X3.out HO.out.own_ge) hbb
    clear ho hg O1 Y1 X1 X2 X3 HX HO HN HB HD
    obtain ⟨L4, hL4⟩ : ∃ L4, L4 = L3 ++ [un, us] := ⟨_, rfl⟩
    rw [← hL4] at HO' HN'
    generalize hn4 : n3 + 2 = n4 at HN' ⊢
    have hnb4 : n4 + 0 ≤ 140737488355328 := by omega
    have HL4 := Lib.hid (And.intro hL4 hn4)
    have HO := Lib.hid HO'
    have HN := Lib.hid HN'
    have HB := Lib.hid HB'
    have HD := Lib.hid HD'
    clear HO' HN' HB' HD' hL4 hn4
    clear S3
    go_wp2_with fail
    go_ret2
    have e1 : n4 = n0 + 207 := by rw [← HL4.out.2, ← HL3.out.2, ← HL2.out.2, ← HL1.out.2]
    have e2 : L4 = L0 ++ mar 9 ⟨da, un.toNat, ub.toNat, 31, dou, us.toNat⟩ := by
      rw [HL4.out.1, HL3.out.1, HL2.out.1, HL1.out.1]
      simp [mar, UInt8.ofNat_toNat]
    refine ⟨a4, c4, ?_, ?_, HB.out, Nat.le_trans HC1.out (Nat.le_trans HC2.out (Nat.le_trans HC3.out HC4.out))⟩
    · rw [← e1]
      rfl
    · rw [← e2]
      exact HO.out

attribute [local irreducible] wpStill in
set_option maxRecDepth 100000 in
set_option maxHeartbeats 1600000 in
theorem appendBinary_csh (w : World) (b T : Nat) (ext : List Value) (d : Dg) (a0 : Option Addr) (n0 c0 base : Nat) (L0 : Bs) (h : DgAt w b T ext d) (hds : d.ds = 4) (hl : L0.length = n0) (hO : Ow w base 5 a0 c0 L0) (hb : base ≤ w.heap.size) (hbb : b < base) (hn : n0 + 207 ≤ 140737488355328) (hr : d.rate ≤ 255) (hdn : d.n ≤ 255) (hst : d.st ≤ 255) :
    Calls Try.prog 79 #[.pointer (some ⟨b, 0, none⟩), .slice a0 n0 c0] w fun e w' => ∃ a c, e = .returned (.tuple #[.slice a (n0 + 207) c, .nilIface]) ∧ Ow w' base 5 a c (L0 ++ mar 10 d) ∧ Below base w w' ∧ c0 ≤ c := by
  obtain ⟨i0, hi, hz0, hz1, hz2⟩ := info_parts info5
  obtain ⟨da, dn, dr, dd, dou, dst⟩ := d
  simp only at hds hr hdn hst
  subst hds
  obtain ⟨ub, rfl⟩ : ∃ ub : UInt8, dr = ub.toNat := ⟨UInt8.ofNat dr, by rw [UInt8.toNat_ofNat']; omega⟩
  obtain ⟨un, rfl⟩ : ∃ un : UInt8, dn = un.toNat := ⟨UInt8.ofNat dn, by rw [UInt8.toNat_ofNat']; omega⟩
  obtain ⟨us, rfl⟩ : ∃ us : UInt8, dst = us.toNat := ⟨UInt8.ofNat dst, by rw [UInt8.toNat_ofNat']; omega⟩
  have q1 : w.cell? ⟨b, 202, none⟩ = some (.int .u8 4) := h.cds
  have hda := Lib.hid h.1
  have t6 : ((4 : Int) == 6) = false := by decide
  have t31 : ((4 : Int) == 31) = false := by decide
  have t4 : ((4 : Int) == 4) = true := by decide
  have HD := Lib.hid h
  have HO := Lib.hid hO
  have HN := Lib.hid hl
  have HB : Hid (Below base w w) := Below.refl _ _
  clear h hO hl
  obtain ⟨xs, hxs⟩ : ∃ xs, xs = L0.map bv := ⟨_, rfl⟩
  obtain ⟨ys, hys⟩ : ∃ ys, ys = ([115, 104, 97, 10]).map bv := ⟨_, rfl⟩
  have O1 : Hid ((w).ownsRow base 5 1 (.slice a0 n0 c0) n0 xs) := by rw [hxs]; exact Ow.row' HO.out HN.out
  have Y1 : Hid (Src Try.prog 1 9 (.string ⟨#[115, 104, 97, 10]⟩) 4 ys (w)) := by rw [hys]; exact Src.ofString w Try.underlying9 ⟨#[115, 104, 97, 10]⟩
  have HX := Lib.hid (And.intro hxs hys)
  clear hxs hys
  have X1 : Hid (n0 + 4 ≤ maxLen) := by show _ ≤ _; unfold maxLen; omega
  have X2 : Hid ((n0 + 4) * 1 ≤ 140737488355328) := by show _ ≤ _; omega
  have X3 : Hid (base ≤ (w).heap.size) := by show _ ≤ _; have := HB.out.size; omega
  go_enter Try.func79, Try.ntmps79
  go_wp2_with (at_builtin; refine wpList_append_srcC _ rfl _ _ 22 9 rfl base 5 i0 (.int .u8 0) 1 1 Try.underlying22 hi hz0 hz1 hz2 rfl a0 n0 c0 xs rfl O1.out _ 4 ys rfl Y1.out X1.out (fit_of X2.out) X3.out ?_)
  intro a1 c1 w1 ho hg hcc
  have HC1 := Lib.hid hcc
  clear hcc
  have HB' : Below base w w1 := HB.out.trans ((((Fr.refl _ _).grown hg (fun q hq => by rw [hq]; exact .inr (by simp))) : Fr (Value.slice a0 n0 c0).ownBlock.toList (w) w1).belowB base X3.out HO.out.own_ge)
  have HO' : Ow w1 base 5 a1 c1 (L0 ++ [115, 104, 97, 10]) := Ow.of ho (by rw [List.length_append, HN.out]; rfl) (by rw [HX.out.1, HX.out.2, List.map_append])
  have HN' : (L0 ++ [115, 104, 97, 10]).length = n0 + 4 := by rw [List.length_append, HN.out]; rfl
  have HD' := HD.out.below ((((Fr.refl _ _).grown hg (fun q hq => by rw [hq]; exact .inr (by simp))) : Fr (Value.slice a0 n0 c0).ownBlock.toList (w) w1).belowB base X3.out HO.out.own_ge) hbb
  clear ho hg O1 Y1 X1 X2 X3 HX HO HN HB HD
  obtain ⟨L1, hL1⟩ : ∃ L1, L1 = L0 ++ [115, 104, 97, 10] := ⟨_, rfl⟩
  rw [← hL1] at HO' HN'
  generalize hn1 : n0 + 4 = n1 at HN' ⊢
  have hnb1 : n1 + 203 ≤ 140737488355328 := by omega
  have HL1 := Lib.hid (And.intro hL1 hn1)
  have HO := Lib.hid HO'
  have HN := Lib.hid HN'
  have HB := Lib.hid HB'
  have HD := Lib.hid HD'
  clear HO' HN' HB' HD' hL1 hn1
  clear q1
  have q2 := HD.out.crate
  simp only at q2
  have S1 := Lib.hid (Sl.one w1 ub 5)
  have HO1 := Lib.hid (HO.out.keep0 ((Fr.refl _ _).alloc (.cells #[.int .u8 ub.toNat] 5)))
  have HB1 : Hid (Below base w (w1.alloc (.cells #[.int .u8 ub.toNat] 5))) := HB.out.alloc (by have := HB.out.size; omega) _
  have HD1 := Lib.hid (HD.out.keep ((Fr.refl [] _).alloc (.cells #[.int .u8 ub.toNat] 5)) (by simp))
  clear HO HB HD
  have HO := HO1
  have HB := HB1
  have HD := HD1
  clear HO1 HB1 HD1
  obtain ⟨xs, hxs⟩ : ∃ xs, xs = L1.map bv := ⟨_, rfl⟩
  obtain ⟨ys, hys⟩ : ∃ ys, ys = ([ub]).map bv := ⟨_, rfl⟩
  have O1 : Hid ((w1.alloc (.cells #[.int .u8 ub.toNat] 5)).ownsRow base 5 1 (.slice a1 n1 c1) n1 xs) := by rw [hxs]; exact Ow.row' HO.out HN.out
  have Y1 : Hid (Src Try.prog 1 22 (.slice (some ⟨w1.heap.size, 0, none⟩) 1 1) 1 ys (w1.alloc (.cells #[.int .u8 ub.toNat] 5))) := by rw [hys]; exact S1.out.src Try.underlying22
  have HX := Lib.hid (And.intro hxs hys)
  clear hxs hys
  have X1 : Hid (n1 + 1 ≤ maxLen) := by show _ ≤ _; unfold maxLen; omega
  have X2 : Hid ((n1 + 1) * 1 ≤ 140737488355328) := by show _ ≤ _; omega
  have X3 : Hid (base ≤ (w1.alloc (.cells #[.int .u8 ub.toNat] 5)).heap.size) := by show _ ≤ _; have := HB.out.size; omega
  go_wp2_with (at_builtin; refine wpList_append_srcC _ rfl _ _ 22 22 rfl base 5 i0 (.int .u8 0) 1 1 Try.underlying22 hi hz0 hz1 hz2 rfl a1 n1 c1 xs rfl O1.out _ 1 ys rfl Y1.out X1.out (fit_of X2.out) X3.out ?_)
  intro a2 c2 w2 ho hg hcc
  have HC2 := Lib.hid hcc
  clear hcc
  have HB' : Below base w w2 := HB.out.trans ((((Fr.refl _ _).grown hg (fun q hq => by rw [hq]; exact .inr (by simp))) : Fr (Value.slice a1 n1 c1).ownBlock.toList (w1.alloc (.cells #[.int .u8 ub.toNat] 5)) w2).belowB base X3.out HO.out.own_ge)
  have HO' : Ow w2 base 5 a2 c2 (L1 ++ [ub]) := Ow.of ho (by rw [List.length_append, HN.out]; rfl) (by rw [HX.out.1, HX.out.2, List.map_append])
  have HN' : (L1 ++ [ub]).length = n1 + 1 := by rw [List.length_append, HN.out]; rfl
  have HD' := HD.out.below ((((Fr.refl _ _).grown hg (fun q hq => by rw [hq]; exact .inr (by simp))) : Fr (Value.slice a1 n1 c1).ownBlock.toList (w1.alloc (.cells #[.int .u8 ub.toNat] 5)) w2).belowB base X3.out HO.out.own_ge) hbb
  clear ho hg O1 Y1 X1 X2 X3 HX HO HN HB HD
  obtain ⟨L2, hL2⟩ : ∃ L2, L2 = L1 ++ [ub] := ⟨_, rfl⟩
  rw [← hL2] at HO' HN'
  generalize hn2 : n1 + 1 = n2 at HN' ⊢
  have hnb2 : n2 + 202 ≤ 140737488355328 := by omega
  have HL2 := Lib.hid (And.intro hL2 hn2)
  have HO := Lib.hid HO'
  have HN := Lib.hid HN'
  have HB := Lib.hid HB'
  have HD := Lib.hid HD'
  clear HO' HN' HB' HD' hL2 hn2
  clear q2 S1
  have S2 := Lib.hid HD.out.sl
  simp only at S2
  obtain ⟨xs, hxs⟩ : ∃ xs, xs = L2.map bv := ⟨_, rfl⟩
  obtain ⟨ys, hys⟩ : ∃ ys, ys = (da).map bv := ⟨_, rfl⟩
  have O1 : Hid ((w2).ownsRow base 5 1 (.slice a2 n2 c2) n2 xs) := by rw [hxs]; exact Ow.row' HO.out HN.out
  have Y1 : Hid (Src Try.prog 1 22 (.slice (some ⟨b, 0, none⟩) 200 200) 200 ys (w2)) := by rw [hys]; exact S2.out.src Try.underlying22
  have HX := Lib.hid (And.intro hxs hys)
  clear hxs hys
  have X1 : Hid (n2 + 200 ≤ maxLen) := by show _ ≤ _; unfold maxLen; omega
  have X2 : Hid ((n2 + 200) * 1 ≤ 140737488355328) := by show _ ≤ _; omega
  have X3 : Hid (base ≤ (w2).heap.size) := by show _ ≤ _; have := HB.out.size; omega
  go_wp2_with (at_builtin; refine wpList_append_srcC _ rfl _ _ 22 22 rfl base 5 i0 (.int .u8 0) 1 1 Try.underlying22 hi hz0 hz1 hz2 rfl a2 n2 c2 xs rfl O1.out _ 200 ys rfl Y1.out X1.out (fit_of X2.out) X3.out ?_)
  intro a3 c3 w3 ho hg hcc
  have HC3 := Lib.hid hcc
  clear hcc
  have HB' : Below base w w3 := HB.out.trans ((((Fr.refl _ _).grown hg (fun q hq => by rw [hq]; exact .inr (by simp))) : Fr (Value.slice a2 n2 c2).ownBlock.toList (w2) w3).belowB base X3.out HO.out.own_ge)
  have HO' : Ow w3 base 5 a3 c3 (L2 ++ da) := Ow.of ho (by rw [List.length_append, HN.out, hda.out]) (by rw [HX.out.1, HX.out.2, List.map_append])
  have HN' : (L2 ++ da).length = n2 + 200 := by rw [List.length_append, HN.out, hda.out]
  have HD' := HD.out.below ((((Fr.refl _ _).grown hg (fun q hq => by rw [hq]; exact .inr (by simp))) : Fr (Value.slice a2 n2 c2).ownBlock.toList (w2) w3).belowB base X3.out HO.out.own_ge) hbb
  clear ho hg O1 Y1 X1 X2 X3 HX HO HN HB HD
  obtain ⟨L3, hL3⟩ : ∃ L3, L3 = L2 ++ da := ⟨_, rfl⟩
  rw [← hL3] at HO' HN'
  generalize hn3 : n2 + 200 = n3 at HN' ⊢
  have hnb3 : n3 + 2 ≤ 140737488355328 := by omega
  have HL3 := Lib.hid (And.intro hL3 hn3)
  have HO := Lib.hid HO'
  have HN := Lib.hid HN'
  have HB := Lib.hid HB'
  have HD := Lib.hid HD'
  clear HO' HN' HB' HD' hL3 hn3
  clear S2
  go_wp2_with fail
  have q3 := HD.out.cn
  have q4 := HD.out.cst
  simp only at q3 q4
  have cv1 : IntKind.u8.wrap (un.toNat : Int) = (un.toNat : Int) := wrap_u8 _ un.toNat_lt
  have cv2 : IntKind.u8.wrap (us.toNat : Int) = (us.toNat : Int) := wrap_u8 _ us.toNat_lt
  have S3 : Hid (Sl ((w3.alloc (.cells #[.int .u8 un.toNat, .int .u8 us.toNat] 5)).drew) (some ⟨w3.heap.size, 0, none⟩) 2 2 [un, us]) := (Sl.two w3 un us 5).keep0 (Fr.refl _ _).drew
  have HO1 := Lib.hid (HO.out.keep0 ((Fr.refl _ _).alloc (.cells #[.int .u8 un.toNat, .int .u8 us.toNat] 5)))
  have HB1 : Hid (Below base w (w3.alloc (.cells #[.int .u8 un.toNat, .int .u8 us.toNat] 5))) := HB.out.alloc (by have := HB.out.size; omega) _
  have HD1 := Lib.hid (HD.out.keep ((Fr.refl [] _).alloc (.cells #[.int .u8 un.toNat, .int .u8 us.toNat] 5)) (by simp))
  clear HO HB HD
  have HO := HO1
  have HB := HB1
  have HD := HD1
  clear HO1 HB1 HD1
  have HO3 : Hid (Ow ((w3.alloc (.cells #[.int .u8 un.toNat, .int .u8 us.toNat] 5)).drew) base 5 a3 c3 L3) := HO
  have HB3 : Hid (Below base w ((w3.alloc (.cells #[.int .u8 un.toNat, .int .u8 us.toNat] 5)).drew)) := Below.drew1 HB.out
  have HD3 : Hid (DgAt ((w3.alloc (.cells #[.int .u8 un.toNat, .int .u8 us.toNat] 5)).drew) b T ext _) := HD
  clear HD HO HB
  have HD := HD3
  have HO := HO3
  have HB := HB3
  clear HD3 HO3 HB3
  obtain ⟨xs, hxs⟩ : ∃ xs, xs = L3.map bv := ⟨_, rfl⟩
  obtain ⟨ys, hys⟩ : ∃ ys, ys = ([un, us]).map bv := ⟨_, rfl⟩
  have O1 : Hid (((w3.alloc (.cells #[.int .u8 un.toNat, .int .u8 us.toNat] 5)).drew).ownsRow base 5 1 (.slice a3 n3 c3) n3 xs) := by rw [hxs]; exact Ow.row' HO.out HN.out
  have Y1 : Hid (Src Try.prog 1 22 (.slice (some ⟨w3.heap.size, 0, none⟩) 2 2) 2 ys ((w3.alloc (.cells #[.int .u8 un.toNat, .int .u8 us.toNat] 5)).drew)) := by rw [hys]; exact S3.out.src Try.underlying22
  have HX := Lib.hid (And.intro hxs hys)
  clear hxs hys
  have X1 : Hid (n3 + 2 ≤ maxLen) := by show _ ≤ _; unfold maxLen; omega
  have X2 : Hid ((n3 + 2) * 1 ≤ 140737488355328) := by show _ ≤ _; omega
  have X3 : Hid (base ≤ ((w3.alloc (.cells #[.int .u8 un.toNat, .int .u8 us.toNat] 5)).drew).heap.size) := by show _ ≤ _; have := HB.out.size; omega
  go_region_law ((refine step_append_srcC _ rfl _ _ 22 22 rfl base 5 i0 (.int .u8 0) 1 1 Try.underlying22 hi hz0 hz1 hz2 rfl a3 n3 c3 xs rfl O1.out _ 2 ys rfl Y1.out X1.out (fit_of X2.out) X3.out ?_; intro a4 c4 w4 ho hg hcc))
  all_goals
    have HC4 := Lib.hid hcc
    clear hcc
    have HB' : Below base w w4 := HB.out.trans ((((Fr.refl _ _).grown hg (fun q hq => by rw [hq]; exact .inr (by simp))) : Fr (Value.slice a3 n3 c3).ownBlock.toList ((w3.alloc (.cells #[.int .u8 un.toNat, .int .u8 us.toNat] 5)).drew) w4).belowB base X3.out HO.out.own_ge)
    have HO' : Ow w4 base 5 a4 c4 (L3 ++ [un, us]) := Ow.of ho (by rw [List.length_append, HN.out]; rfl) (by rw [HX.out.1, HX.out.2, List.map_append])
    have HN' : (L3 ++ [un, us]).length = n3 + 2 := by rw [List.length_append, HN.out]; rfl
    have HD' := HD.out.below ((((Fr.refl _ _).grown hg (fun q hq => by rw [hq]; exact .inr (by simp))) : Fr (Value.slice a3 n3 c3).ownBlock.toList ((w3.alloc (.cells #[.int .u8 un.toNat, .int .u8 us.toNat] 5)).drew) w4).belowB base X3.out HO.out.own_ge) hbb
    clear ho hg O1 Y1 X1 X2 X3 HX HO HN HB HD
    obtain ⟨L4, hL4⟩ : ∃ L4, L4 = L3 ++ [un, us] := ⟨_, rfl⟩
    rw [← hL4] at HO' HN'
    generalize hn4 : n3 + 2 = n4 at HN' ⊢
    have hnb4 : n4 + 0 ≤ 140737488355328 := by omega
    have HL4 := Lib.hid (And.intro hL4 hn4)
    have HO := Lib.hid HO'
    have HN := Lib.hid HN'
    have HB := Lib.hid HB'
    have HD := Lib.hid HD'
    clear HO' HN' HB' HD' hL4 hn4
    clear S3
    go_wp2_with fail
    go_ret2
    have e1 : n4 = n0 + 207 := by rw [← HL4.out.2, ← HL3.out.2, ← HL2.out.2, ← HL1.out.2]
    have e2 : L4 = L0 ++ mar 10 ⟨da, un.toNat, ub.toNat, 4, dou, us.toNat⟩ := by
      rw [HL4.out.1, HL3.out.1, HL2.out.1, HL1.out.1]
      simp [mar, UInt8.ofNat_toNat]
    refine ⟨a4, c4, ?_, ?_, HB.out, Nat.le_trans HC1.out (Nat.le_trans HC2.out (Nat.le_trans HC3.out HC4.out))⟩
    · rw [← e1]
      rfl
    · rw [← e2]
      exact HO.out

end Go.Proofs.Ytkijnpjefccepaa
end

section
namespace Go.Proofs.Ytkijnpjefccepaa
open Go.ChangeShapes Go.WideShapes Go.ChangeAt Go.RowKit Go.Sha

set_option maxRecDepth 100000 in
set_option maxHeartbeats 1600000 in
theorem unmarshal_shk (w : World) (b T : Nat) (ext : List Value) (d d0 : Dg) (g o cp : Nat) (h : DgAt w b T ext d) (hds : d.ds = 31) (hd0 : d0.a.length = 200) (hrate : d0.rate = d.rate) (hrl : d.rate ≤ 255) (hn0 : d0.n ≤ d.rate) (hst0 : d0.st = 0 ∨ d0.st = 1) (hS : Sl w (some ⟨g, o, none⟩) 207 cp (mar 9 d0)) (hgb : g ≠ b) :
    Calls Try.prog 81 #[.pointer (some ⟨b, 0, none⟩), .slice (some ⟨g, o, none⟩) 207 cp] w (RetD .nilIface b T ext { d with a := d0.a, n := d0.n, st := d0.st } w) := by
  obtain ⟨i0, hi, hz0, hz1, hz2⟩ := info_parts info5
  have hcp := hS.cap
  have hmx := hS.max
  unfold maxLen at hmx
  have hcel : ∀ i, i < 207 → w.cell? ⟨g, o + i, none⟩ = some (.int .u8 ((mar 9 d0).getD i 0).toNat) := by
    rcases hS.cel with h0 | ⟨b', o', hb', hc⟩
    · omega
    · simp only [Option.some.injEq, Addr.mk.injEq] at hb'
      obtain ⟨rfl, rfl, _⟩ := hb'
      exact hc
  clear hS
  have HC := Lib.hid hcel
  clear hcel
  have hcv := run_convert_bytes_arg (P := Try.prog) w 22 5 Try.underlying22 Try.underlying5 g o 4 cp [115, 104, 97, 9] rfl (fun i hi => by
    rw [HC.out i (by omega)]
    obtain rfl | rfl | rfl | rfl : i = 0 ∨ i = 1 ∨ i = 2 ∨ i = 3 := by omega
    all_goals rfl) 9 Try.underlying9
  have hcv' : (convert 22 9 (.slice (some ⟨g, o, none⟩) 4 cp)).run Try.prog w = .ok (.string ⟨#[115, 104, 97, 9]⟩) w := hcv
  clear hcv
  have s8 : ((⟨#[115, 104, 97, 9]⟩ : ByteArray) == ⟨#[115, 104, 97, 8]⟩) = false := by decide
  have s9 : ((⟨#[115, 104, 97, 9]⟩ : ByteArray) == ⟨#[115, 104, 97, 9]⟩) = true := by decide
  obtain ⟨da, dn, dr, dd, dou, dst⟩ := d
  obtain ⟨ea, en, er, ed, eou, est⟩ := d0
  simp only at hds hrate hrl hn0 hst0 hd0
  subst hds hrate
  obtain ⟨ub, rfl⟩ : ∃ ub : UInt8, er = ub.toNat := ⟨UInt8.ofNat er, by rw [UInt8.toNat_ofNat']; omega⟩
  obtain ⟨un, rfl⟩ : ∃ un : UInt8, en = un.toNat := ⟨UInt8.ofNat en, by rw [UInt8.toNat_ofNat']; omega⟩
  have hub : ub.toNat < 256 := ub.toNat_lt
  have hun : un.toNat < 256 := un.toNat_lt
  have q1 : w.cell? ⟨b, 202, none⟩ = some (.int .u8 31) := h.cds
  have q2 : w.cell? ⟨b, 201, none⟩ = some (.int .i64 ub.toNat) := h.crate
  have p4 : w.cell? ⟨g, o + 4, none⟩ = some (.int .u8 ub.toNat) := by
    rw [HC.out 4 (by omega), mar_at4, UInt8.ofNat_toNat]
  have z1 : ¬ cp = 4 := by omega
  have z2 : ¬ cp - 4 = 1 := by omega
  have z3 : ¬ cp - 4 - 1 = 200 := by omega
  have HD := Lib.hid h
  have hla := h.1
  simp only at hla
  clear h
  have HE := Lib.hid hd0
  clear hd0
  have HST := Lib.hid hst0
  clear hst0
  have hcopy := run_copy_bytes (P := Try.prog) (w := w) (ty := 3) (tx := 22) (g := b) (o := 0) (m := 200) (c := 200) (b := g) (n := o + 4 + 1) (q := 202) (c2 := cp - 4 - 1) (k := 200) (l := ea) Try.underlying22 hi hz1 HD.out.2 rfl (by rw [List.size_toArray, List.length_append, Dg.cells_length _ hla]; omega) HE.out (fun i hi => by
    rw [show o + 4 + 1 + i = o + (5 + i) by omega, HC.out (5 + i) (by omega), mar_at _ _ HE.out i hi])
  rw [Dg.setCells _ ext ea hla HE.out] at hcopy
  have HCP := Lib.hid hcopy
  clear hcopy
  go_enter Try.func81, Try.ntmps81
  go_wp2_with (refine wpList_copy_run (vs := .slice (some ⟨b, 0, none⟩) 200 200) (vx := .slice (some ⟨g, o + 4 + 1, none⟩) 202 (cp - 4 - 1)) rfl _ _ 22 22 rfl rfl rfl HCP.out ?_; refine Hid.out ?_)
  show wpList _ _ _ _ _ _
  have D1 : DgAt (w.setRow b (({ a := ea, n := dn, rate := ub.toNat, ds := 31, out := dou, st := dst : Dg }).cells ++ ext).toArray) b T ext { a := ea, n := dn, rate := ub.toNat, ds := 31, out := dou, st := dst } := ⟨HE.out, setRow_heap _ _ _ _ _ _ HD.out.2⟩
  have f1 : Fr [b] w (w.setRow b (({ a := ea, n := dn, rate := ub.toNat, ds := 31, out := dou, st := dst : Dg }).cells ++ ext).toArray) := (Fr.refl _ _).setRow _ _ (.inr (by simp))
  generalize w.setRow b (({ a := ea, n := dn, rate := ub.toNat, ds := 31, out := dou, st := dst : Dg }).cells ++ ext).toArray = w1 at D1 f1 ⊢
  have p5 : w1.cell? ⟨g, o + 4 + 1 + 200, none⟩ = some (.int .u8 un.toNat) := f1.cell (by rw [show o + 4 + 1 + 200 = o + 205 by omega, HC.out 205 (by omega), mar_n _ _ HE.out, UInt8.ofNat_toNat]) (by simpa using hgb)
  obtain ⟨us, hus, hus2⟩ : ∃ us : UInt8, us.toNat = est ∧ (us.toNat = 0 ∨ us.toNat = 1) := ⟨UInt8.ofNat est, by rw [UInt8.toNat_ofNat']; rcases HST.out with e | e <;> omega, by rw [UInt8.toNat_ofNat']; rcases HST.out with e | e <;> omega⟩
  have p6 : w1.cell? ⟨g, o + 4 + 1 + 200 + 1, none⟩ = some (.int .u8 us.toNat) := f1.cell (by rw [show o + 4 + 1 + 200 + 1 = o + 206 by omega, HC.out 206 (by omega), mar_st _ _ HE.out, hus, ← hus, UInt8.ofNat_toNat]) (by simpa using hgb)
  have HUS := Lib.hid hus
  clear hus q1 q2 p4 HCP HC HST hcv'
  have H1 := Lib.hid D1
  have q5 := D1.crate
  have q6 := D1.cn
  have q7 := D1.fz 200
  simp only at q5 q6
  have hnn : ¬ (ub.toNat : Int) < (un.toNat : Int) := by omega
  have q8 := D1.cst
  have q9 := D1.fz 204
  simp only at q8
  have D2 := D1.setN un.toNat
  have D3 := D2.setSt us.toNat
  have H3 := Lib.hid D3
  clear D1 D2 D3
  generalize hu : us.toNat = u at p6 H3 HUS hus2
  clear hu
  go_wp2_with fail
  go_quiet (fail)
  rcases hus2 with rfl | rfl
  all_goals
    go_wp2_with fail
    go_ret
    refine ⟨rfl, ?_, ?_⟩
    · rw [← HUS.out]
      exact H3.out
    · exact ((f1.drewN _).setCell _ _ (.inr (by simp))).setCell _ _ (.inr (by simp))

set_option maxRecDepth 100000 in
set_option maxHeartbeats 1600000 in
theorem unmarshal_csh (w : World) (b T : Nat) (ext : List Value) (d d0 : Dg) (g o cp : Nat) (h : DgAt w b T ext d) (hds : d.ds = 4) (hd0 : d0.a.length = 200) (hrate : d0.rate = d.rate) (hrl : d.rate ≤ 255) (hn0 : d0.n ≤ d.rate) (hst0 : d0.st = 0 ∨ d0.st = 1) (hS : Sl w (some ⟨g, o, none⟩) 207 cp (mar 10 d0)) (hgb : g ≠ b) :
    Calls Try.prog 81 #[.pointer (some ⟨b, 0, none⟩), .slice (some ⟨g, o, none⟩) 207 cp] w (RetD .nilIface b T ext { d with a := d0.a, n := d0.n, st := d0.st } w) := by
  obtain ⟨i0, hi, hz0, hz1, hz2⟩ := info_parts info5
  have hcp := hS.cap
  have hmx := hS.max
  unfold maxLen at hmx
  have hcel : ∀ i, i < 207 → w.cell? ⟨g, o + i, none⟩ = some (.int .u8 ((mar 10 d0).getD i 0).toNat) := by
    rcases hS.cel with h0 | ⟨b', o', hb', hc⟩
    · omega
    · simp only [Option.some.injEq, Addr.mk.injEq] at hb'
      obtain ⟨rfl, rfl, _⟩ := hb'
      exact hc
  clear hS
  have HC := Lib.hid hcel
  clear hcel
  have hcv := run_convert_bytes_arg (P := Try.prog) w 22 5 Try.underlying22 Try.underlying5 g o 4 cp [115, 104, 97, 10] rfl (fun i hi => by
    rw [HC.out i (by omega)]
    obtain rfl | rfl | rfl | rfl : i = 0 ∨ i = 1 ∨ i = 2 ∨ i = 3 := by omega
    all_goals rfl) 9 Try.underlying9
  have hcv' : (convert 22 9 (.slice (some ⟨g, o, none⟩) 4 cp)).run Try.prog w = .ok (.string ⟨#[115, 104, 97, 10]⟩) w := hcv
  clear hcv
  have s8 : ((⟨#[115, 104, 97, 10]⟩ : ByteArray) == ⟨#[115, 104, 97, 8]⟩) = false := by decide
  have s9 : ((⟨#[115, 104, 97, 10]⟩ : ByteArray) == ⟨#[115, 104, 97, 9]⟩) = false := by decide
  have s10 : ((⟨#[115, 104, 97, 10]⟩ : ByteArray) == ⟨#[115, 104, 97, 10]⟩) = true := by decide
  obtain ⟨da, dn, dr, dd, dou, dst⟩ := d
  obtain ⟨ea, en, er, ed, eou, est⟩ := d0
  simp only at hds hrate hrl hn0 hst0 hd0
  subst hds hrate
  obtain ⟨ub, rfl⟩ : ∃ ub : UInt8, er = ub.toNat := ⟨UInt8.ofNat er, by rw [UInt8.toNat_ofNat']; omega⟩
  obtain ⟨un, rfl⟩ : ∃ un : UInt8, en = un.toNat := ⟨UInt8.ofNat en, by rw [UInt8.toNat_ofNat']; omega⟩
  have hub : ub.toNat < 256 := ub.toNat_lt
  have hun : un.toNat < 256 := un.toNat_lt
  have q1 : w.cell? ⟨b, 202, none⟩ = some (.int .u8 4) := h.cds
  have q2 : w.cell? ⟨b, 201, none⟩ = some (.int .i64 ub.toNat) := h.crate
  have p4 : w.cell? ⟨g, o + 4, none⟩ = some (.int .u8 ub.toNat) := by
    rw [HC.out 4 (by omega), mar_at4, UInt8.ofNat_toNat]
  have z1 : ¬ cp = 4 := by omega
  have z2 : ¬ cp - 4 = 1 := by omega
  have z3 : ¬ cp - 4 - 1 = 200 := by omega
  have HD := Lib.hid h
  have hla := h.1
  simp only at hla
  clear h
  have HE := Lib.hid hd0
  clear hd0
  have HST := Lib.hid hst0
  clear hst0
  have hcopy := run_copy_bytes (P := Try.prog) (w := w) (ty := 3) (tx := 22) (g := b) (o := 0) (m := 200) (c := 200) (b := g) (n := o + 4 + 1) (q := 202) (c2 := cp - 4 - 1) (k := 200) (l := ea) Try.underlying22 hi hz1 HD.out.2 rfl (by rw [List.size_toArray, List.length_append, Dg.cells_length _ hla]; omega) HE.out (fun i hi => by
    rw [show o + 4 + 1 + i = o + (5 + i) by omega, HC.out (5 + i) (by omega), mar_at _ _ HE.out i hi])
  rw [Dg.setCells _ ext ea hla HE.out] at hcopy
  have HCP := Lib.hid hcopy
  clear hcopy
  go_enter Try.func81, Try.ntmps81
  go_wp2_with (refine wpList_copy_run (vs := .slice (some ⟨b, 0, none⟩) 200 200) (vx := .slice (some ⟨g, o + 4 + 1, none⟩) 202 (cp - 4 - 1)) rfl _ _ 22 22 rfl rfl rfl HCP.out ?_; refine Hid.out ?_)
  show wpList _ _ _ _ _ _
  have D1 : DgAt (w.setRow b (({ a := ea, n := dn, rate := ub.toNat, ds := 4, out := dou, st := dst : Dg }).cells ++ ext).toArray) b T ext { a := ea, n := dn, rate := ub.toNat, ds := 4, out := dou, st := dst } := ⟨HE.out, setRow_heap _ _ _ _ _ _ HD.out.2⟩
  have f1 : Fr [b] w (w.setRow b (({ a := ea, n := dn, rate := ub.toNat, ds := 4, out := dou, st := dst : Dg }).cells ++ ext).toArray) := (Fr.refl _ _).setRow _ _ (.inr (by simp))
  generalize w.setRow b (({ a := ea, n := dn, rate := ub.toNat, ds := 4, out := dou, st := dst : Dg }).cells ++ ext).toArray = w1 at D1 f1 ⊢
  have p5 : w1.cell? ⟨g, o + 4 + 1 + 200, none⟩ = some (.int .u8 un.toNat) := f1.cell (by rw [show o + 4 + 1 + 200 = o + 205 by omega, HC.out 205 (by omega), mar_n _ _ HE.out, UInt8.ofNat_toNat]) (by simpa using hgb)
  obtain ⟨us, hus, hus2⟩ : ∃ us : UInt8, us.toNat = est ∧ (us.toNat = 0 ∨ us.toNat = 1) := ⟨UInt8.ofNat est, by rw [UInt8.toNat_ofNat']; rcases HST.out with e | e <;> omega, by rw [UInt8.toNat_ofNat']; rcases HST.out with e | e <;> omega⟩
  have p6 : w1.cell? ⟨g, o + 4 + 1 + 200 + 1, none⟩ = some (.int .u8 us.toNat) := f1.cell (by rw [show o + 4 + 1 + 200 + 1 = o + 206 by omega, HC.out 206 (by omega), mar_st _ _ HE.out, hus, ← hus, UInt8.ofNat_toNat]) (by simpa using hgb)
  have HUS := Lib.hid hus
  clear hus q1 q2 p4 HCP HC HST hcv'
  have H1 := Lib.hid D1
  have q5 := D1.crate
  have q6 := D1.cn
  have q7 := D1.fz 200
  simp only at q5 q6
  have hnn : ¬ (ub.toNat : Int) < (un.toNat : Int) := by omega
  have q8 := D1.cst
  have q9 := D1.fz 204
  simp only at q8
  have D2 := D1.setN un.toNat
  have D3 := D2.setSt us.toNat
  have H3 := Lib.hid D3
  clear D1 D2 D3
  generalize hu : us.toNat = u at p6 H3 HUS hus2
  clear hu
  go_wp2_with fail
  go_quiet (fail)
  rcases hus2 with rfl | rfl
  all_goals
    go_wp2_with fail
    go_ret
    refine ⟨rfl, ?_, ?_⟩
    · rw [← HUS.out]
      exact H3.out
    · exact ((f1.drewN _).setCell _ _ (.inr (by simp))).setCell _ _ (.inr (by simp))

end Go.Proofs.Ytkijnpjefccepaa
end

section
namespace Go.Sha
open Go.RowKit
/-- a state as bytes -/
def marX (p : XP) (x : XS) : Bs := mar p.mg (xD p x) ++ p.ini
theorem marX_length (p : XP) (x : XS) (h : p.Ok) : (marX p x).length = 207 + p.ini.length := by rw [marX, List.length_append, mar_length _ _ (h.any x).1]
def slx (m : Nat) (x : Nat × Nat) : Value := .slice (some ⟨x.1, 0, none⟩) m x.2
/-- name and customization, as they were handed in -/
structure NC where
  an : Option Addr
  nn : Nat
  cn : Nat
  name : Bs
  ac : Option Addr
  nc : Nat
  cc : Nat
  cust : Bs
structure NC.At (q : NC) (w : World) (base : Nat) : Prop where
  nm : Sl w q.an q.nn q.cn q.name
  cu : Sl w q.ac q.nc q.cc q.cust
  nmb : ∀ y, q.an = some y → q.nn ≠ 0 → y.block < base
  cub : ∀ y, q.ac = some y → q.nc ≠ 0 → y.block < base
theorem NC.At.keep {q : NC} {w w' : World} {base : Nat} {S : List Nat} (h : q.At w base) (hf : Fr S w w') (hS : ∀ k ∈ S, base ≤ k) : q.At w' base :=
  ⟨h.nm.keep hf (fun y hy hn hm => by have := hS _ hm; have := h.nmb y hy hn; omega), h.cu.keep hf (fun y hy hn hm => by have := hS _ hm; have := h.cub y hy hn; omega), h.nmb, h.cub⟩
/-- the state of a script: x lies in block hb, its functions in the blocks bs, the saved states in ss; S: the blocks that a call may write -/
structure XI (HT PT SU ST : Nat) (w : World) (base hb : Nat) (kind : Int) (p : XP) (q : NC) (all : List XS) (saved : List XS) (bs : List Nat) (ss : List (Nat × Nat)) (a1 : Option Addr) (c1 : Nat) (a2 : Option Addr) (c2 : Nat) (S : List Nat) : Prop where
  blk : w.heap[hb]? = some (.cells #[.int .i64 kind, .slice q.an q.nn q.cn, .slice q.ac q.nc q.cc, .slice a1 all.length c1, .slice a2 saved.length c2] HT (0, 0))
  bl : bs.length = all.length
  rowA : w.ownsRow base PT 1 (.slice a1 all.length c1) all.length (bs.map ptr)
  hs : ∀ i, i < all.length → XsAt w (bs.getD i 0) ST p S (all.getD i ⟨[], none⟩)
  nodup : bs.Nodup
  sl : ss.length = saved.length
  rowS : w.ownsRow base SU 1 (.slice a2 saved.length c2) saved.length (ss.map (slx (207 + p.ini.length)))
  sv : ∀ i, i < saved.length → Sl w (some ⟨(ss.getD i (0, 0)).1, 0, none⟩) (207 + p.ini.length) (ss.getD i (0, 0)).2 (marX p (saved.getD i ⟨[], none⟩)) ∧ (ss.getD i (0, 0)).1 ∉ S
  hbS : hb ∈ S
  bsS : ∀ b ∈ bs, b ∈ S
  a1S : ∀ x, a1 = some x → x.block ∈ S
  a2S : ∀ x, a2 = some x → x.block ∈ S
  hbbs : hb ∉ bs
  a1bs : ∀ x, a1 = some x → x.block ≠ hb ∧ x.block ∉ bs
  a2bs : ∀ x, a2 = some x → x.block ≠ hb ∧ x.block ∉ bs
  a12 : ∀ x y, a1 = some x → a2 = some y → x.block ≠ y.block
  Slt : ∀ k ∈ S, base ≤ k ∧ k < w.heap.size
  pos : 0 < all.length
  rt : p.Ok
  nc : q.At w base
section
variable {HT PT SU ST : Nat} {w w' : World} {base hb : Nat} {kind : Int} {p : XP} {q : NC} {all saved : List XS} {bs : List Nat} {ss : List (Nat × Nat)} {a1 a2 : Option Addr} {c1 c2 : Nat} {S : List Nat}
theorem XI.keep0 (h : XI HT PT SU ST w base hb kind p q all saved bs ss a1 c1 a2 c2 S) (hf : Fr [] w w') : XI HT PT SU ST w' base hb kind p q all saved bs ss a1 c1 a2 c2 S :=
  ⟨hf.obj h.blk (by simp), h.bl, ownsRow_keep h.rowA hf (by simp), fun i hi => (h.hs i hi).keep hf (by simp) (by simp), h.nodup, h.sl, ownsRow_keep h.rowS hf (by simp), fun i hi => ⟨(h.sv i hi).1.keep0 hf, (h.sv i hi).2⟩, h.hbS, h.bsS, h.a1S, h.a2S, h.hbbs, h.a1bs, h.a2bs, h.a12, fun k hk => ⟨(h.Slt k hk).1, Nat.lt_of_lt_of_le (h.Slt k hk).2 hf.size⟩, h.pos, h.rt, h.nc.keep hf (by simp)⟩
/-- one hash turns -/
theorem XI.upd (h : XI HT PT SU ST w base hb kind p q all saved bs ss a1 c1 a2 c2 S) (i : Nat) (hi : i < all.length) (data : XS) (hf : Fr [bs.getD i 0] w w') (hd : XsAt w' (bs.getD i 0) ST p S data) :
    XI HT PT SU ST w' base hb kind p q (all.set i data) saved bs ss a1 c1 a2 c2 S := by
  have hm := getD_mem (bs := bs) (i := i) (by rw [h.bl]; exact hi)
  have hl : (all.set i data).length = all.length := by simp
  refine ⟨?_, by rw [hl]; exact h.bl, ?_, ?_, h.nodup, h.sl, ?_, ?_, h.hbS, h.bsS, h.a1S, h.a2S, h.hbbs, h.a1bs, h.a2bs, h.a12, fun k hk => ⟨(h.Slt k hk).1, Nat.lt_of_lt_of_le (h.Slt k hk).2 hf.size⟩, by rw [hl]; exact h.pos, h.rt, h.nc.keep hf (fun k hk => by simp at hk; subst hk; exact (h.Slt _ (h.bsS _ hm)).1)⟩
  · rw [hl]
    exact hf.obj h.blk (by simp; intro e; exact h.hbbs (e ▸ hm))
  · rw [hl]
    refine ownsRow_keep h.rowA hf (fun k hk => ?_)
    obtain ⟨x, hx, rfl⟩ := ownBlock_some hk
    simp
    intro e
    exact (h.a1bs x hx).2 (e ▸ hm)
  · intro j hj
    rw [hl] at hj
    rw [getD_set _ _ _ _ _ hi]
    by_cases e : j = i
    · subst e; rw [if_pos rfl]; exact hd
    · rw [if_neg e]
      exact (h.hs j hj).keep hf (by simp; exact nodup_getD h.nodup (by rw [h.bl]; exact hj) (by rw [h.bl]; exact hi) e) (fun k hk => by simp at hk; subst hk; exact .inl (h.bsS _ hm))
  · refine ownsRow_keep h.rowS hf (fun k hk => ?_)
    obtain ⟨x, hx, rfl⟩ := ownBlock_some hk
    simp
    intro e
    exact (h.a2bs x hx).2 (e ▸ hm)
  · intro j hj
    refine ⟨(h.sv j hj).1.keep hf (fun x hx _ => ?_), (h.sv j hj).2⟩
    simp only [Option.some.injEq] at hx
    subst hx
    simp
    intro e
    exact (h.sv j hj).2 (e ▸ h.bsS _ hm)
theorem XI.lt_of (h : XI HT PT SU ST w base hb kind p q all saved bs ss a1 c1 a2 c2 S) {k : Nat} (hk : k ∈ S) : k < w.heap.size := (h.Slt k hk).2
theorem XI.push (h : XI HT PT SU ST w base hb kind p q all saved bs ss a1 c1 a2 c2 S) {wB wC : World} {g c1' : Nat} {a1' : Option Addr} {data : XS} (hf : Fr [] w wB) (hH : XsAt wB g ST p (g :: S) data) (hg : w.heap.size ≤ g) (hbase : base ≤ w.heap.size)
    (ho : wC.ownsRow base PT 1 (.slice a1' (all.length + 1) c1') (all.length + 1) (bs.map ptr ++ [ptr g])) (hgr : wB.grownBy wC (Value.slice a1 all.length c1).ownBlock) (ha : a1' = a1 ∨ a1' = some ⟨wB.heap.size, 0, none⟩) :
    XI HT PT SU ST (wC.setCell ⟨hb, 3, none⟩ (.slice a1' (all.length + 1) c1')) base hb kind p q (all ++ [data]) saved (bs ++ [g]) ss a1' c1' a2 c2 (g :: (blkOf a1' ++ S)) ∧ Fr S w (wC.setCell ⟨hb, 3, none⟩ (.slice a1' (all.length + 1) c1')) := by
  have hbl := h.lt_of h.hbS
  have hgl := hH.lt
  have hsz := hf.size
  have fBC : Fr (blkOf a1) wB wC := by
    rw [← ownBlock_blkOf a1 all.length c1]
    exact (Fr.refl _ _).grown hgr (fun k hk => by rw [hk]; exact .inr (by simp))
  have fCD : Fr [hb] wC (wC.setCell ⟨hb, 3, none⟩ (.slice a1' (all.length + 1) c1')) := (Fr.refl _ _).setCell _ _ (.inr (by simp))
  have hne1 : ∀ x, a1' = some x → x.block ≠ hb ∧ x.block ∉ bs ∧ x.block ≠ g ∧ (∀ y, a2 = some y → x.block ≠ y.block) := fun x hx => by
    rcases ha with rfl | rfl
    · refine ⟨(h.a1bs x hx).1, (h.a1bs x hx).2, ?_, fun y hy => h.a12 x y hx hy⟩
      have := h.lt_of (h.a1S x hx)
      omega
    · simp only [Option.some.injEq] at hx
      subst hx
      refine ⟨by simp only; omega, fun hm => ?_, by simp only; omega, fun y hy => ?_⟩
      · have := h.lt_of (h.bsS _ hm)
        simp only at this
        omega
      · have := h.lt_of (h.a2S y hy)
        simp only
        omega
  have hblkC : wC.heap[hb]? = some (.cells #[.int .i64 kind, .slice q.an q.nn q.cn, .slice q.ac q.nc q.cc, .slice a1 all.length c1, .slice a2 saved.length c2] HT (0, 0)) := by
    refine fBC.obj (hf.obj h.blk (by simp)) (fun hm => ?_)
    obtain ⟨x, hx, e⟩ := mem_blkOf.1 hm
    exact (h.a1bs x hx).1 e
  have hfar : ∀ k, k < wB.heap.size → k ∉ blkOf a1 → k ≠ hb → (wC.setCell ⟨hb, 3, none⟩ (.slice a1' (all.length + 1) c1')).heap[k]? = wB.heap[k]? := fun k hk h1 h2 => by
    rw [fCD.block k (Nat.lt_of_lt_of_le hk fBC.size) (by simpa using h2), fBC.block k hk h1]
  have fBD : Fr (hb :: blkOf a1) wB (wC.setCell ⟨hb, 3, none⟩ (.slice a1' (all.length + 1) c1')) :=
    ⟨fCD.os.trans fBC.os, fCD.tape.trans fBC.tape, fCD.output.trans fBC.output, Nat.le_trans fBC.size fCD.size, fun k hk hs => hfar k hk (fun x => hs (by simp [x])) (fun x => hs (by simp [x]))⟩
  have hSub : ∀ k ∈ hb :: blkOf a1, k ∈ S := fun k hk => by
    rcases List.mem_cons.1 hk with e | hk
    · exact e ▸ h.hbS
    · obtain ⟨x, hx, e⟩ := mem_blkOf.1 hk
      exact e ▸ h.a1S x hx
  have hnc := (h.nc.keep hf (by simp)).keep fBD (fun k hk => (h.Slt k (hSub k hk)).1)
  have hg1 : ∀ k ∈ g :: (blkOf a1' ++ S), k ∈ S ∨ w.heap.size ≤ k := fun k hk => by
    rcases List.mem_cons.1 hk with e | hk
    · exact .inr (by omega)
    rcases List.mem_append.1 hk with hk | hk
    · obtain ⟨x, hx, e⟩ := mem_blkOf.1 hk
      rcases ha with rfl | rfl
      · exact .inl (e ▸ h.a1S x hx)
      · simp only [Option.some.injEq] at hx
        subst hx
        simp only at e
        exact .inr (by omega)
    · exact .inl hk
  have hg2 : ∀ k ∈ g :: (blkOf a1' ++ S), k ∈ g :: S ∨ wB.heap.size ≤ k := fun k hk => by
    rcases List.mem_cons.1 hk with e | hk
    · exact .inl (by simp [e])
    rcases List.mem_append.1 hk with hk | hk
    · obtain ⟨x, hx, e⟩ := mem_blkOf.1 hk
      rcases ha with rfl | rfl
      · exact .inl (by simp [← e, h.a1S x hx])
      · simp only [Option.some.injEq] at hx
        subst hx
        simp only at e
        exact .inr (by omega)
    · exact .inl (by simp [hk])
  have hbsa : ∀ b ∈ bs, b ∉ hb :: blkOf a1 := fun b hb' hm => by
    rcases List.mem_cons.1 hm with e | hm
    · exact h.hbbs (e ▸ hb')
    · obtain ⟨x, hx, e⟩ := mem_blkOf.1 hm
      exact (h.a1bs x hx).2 (e ▸ hb')
  have hga : g ∉ hb :: blkOf a1 := fun hm => by
    rcases List.mem_cons.1 hm with e | hm
    · omega
    · obtain ⟨x, hx, e⟩ := mem_blkOf.1 hm
      have := h.lt_of (h.a1S x hx)
      omega
  refine ⟨⟨?_, ?_, ?_, ?_, ?_, h.sl, ?_, ?_, ?_, ?_, ?_, ?_, ?_, ?_, ?_, ?_, ?_, ?_, h.rt, hnc⟩, ?_⟩
  · rw [Go.Sha.heap_setCell_same hblkC]
    simp
  · simp [h.bl]
  · rw [show (all ++ [data]).length = all.length + 1 by simp, List.map_append]
    refine ownsRow_keep ho fCD (fun k hk => ?_)
    obtain ⟨x, hx, rfl⟩ := ownBlock_some hk
    simpa using (hne1 x hx).1
  · intro i hi
    simp only [List.length_append, List.length_cons, List.length_nil] at hi
    by_cases e : i < all.length
    · rw [getD_append_lt _ _ _ _ e, getD_append_lt _ _ _ _ (by rw [h.bl]; exact e)]
      exact (((h.hs i e).more hg1).keep hf (by simp) (by simp)).keep fBD (hbsa _ (getD_mem (by rw [h.bl]; exact e))) (fun k hk => .inl (by simp [hSub k hk]))
    · obtain rfl : i = all.length := by omega
      rw [getD_append_eq]
      have : (bs ++ [g]).getD all.length 0 = g := by rw [← h.bl]; exact getD_append_eq bs g 0
      rw [this]
      exact (hH.more hg2).keep fBD hga (fun k hk => .inl (by simp [hSub k hk]))
  · rw [List.nodup_append]
    refine ⟨h.nodup, by simp, fun a ha' b hb' => ?_⟩
    simp only [List.mem_cons, List.not_mem_nil, or_false] at hb'
    subst hb'
    have := h.lt_of (h.bsS a ha')
    omega
  · refine ownsRow_keep (ownsRow_keep h.rowS hf (by simp)) fBD (fun k hk => ?_)
    obtain ⟨x, hx, rfl⟩ := ownBlock_some hk
    intro hm
    rcases List.mem_cons.1 hm with e | hm
    · exact (h.a2bs x hx).1 e
    · obtain ⟨y, hy, e⟩ := mem_blkOf.1 hm
      exact h.a12 y x hy hx e
  · intro i hi
    have hs := h.sv i hi
    have hlt := hs.1.lt (x := ⟨(ss.getD i (0, 0)).1, 0, none⟩) rfl (by omega)
    simp only at hlt
    refine ⟨(hs.1.keep0 hf).keep fBD (fun x hx _ hm => ?_), fun hm => ?_⟩
    · simp only [Option.some.injEq] at hx
      subst hx
      rcases List.mem_cons.1 hm with e | hm
      · simp only at e
        exact hs.2 (e ▸ h.hbS)
      · obtain ⟨y, hy, e⟩ := mem_blkOf.1 hm
        simp only at e
        exact hs.2 (e ▸ h.a1S y hy)
    · rcases List.mem_cons.1 hm with e | hm
      · omega
      · rcases List.mem_append.1 hm with hm | hm
        · obtain ⟨y, hy, e⟩ := mem_blkOf.1 hm
          rcases ha with rfl | rfl
          · exact hs.2 (e ▸ h.a1S y hy)
          · simp only [Option.some.injEq] at hy
            subst hy
            simp only at e
            omega
        · exact hs.2 hm
  · simp [h.hbS]
  · intro b hb'
    rcases List.mem_append.1 hb' with hb' | hb'
    · simp [h.bsS b hb']
    · simp only [List.mem_cons, List.not_mem_nil, or_false] at hb'
      simp [hb']
  · intro x hx
    have : x.block ∈ blkOf a1' := mem_blkOf.2 ⟨x, hx, rfl⟩
    simp [this]
  · intro x hx
    simp [h.a2S x hx]
  · simp only [List.mem_append, List.mem_cons, List.not_mem_nil, or_false, not_or]
    exact ⟨h.hbbs, by omega⟩
  · intro x hx
    refine ⟨(hne1 x hx).1, ?_⟩
    simp only [List.mem_append, List.mem_cons, List.not_mem_nil, or_false, not_or]
    exact ⟨(hne1 x hx).2.1, (hne1 x hx).2.2.1⟩
  · intro x hx
    refine ⟨(h.a2bs x hx).1, ?_⟩
    simp only [List.mem_append, List.mem_cons, List.not_mem_nil, or_false, not_or]
    refine ⟨(h.a2bs x hx).2, ?_⟩
    have := h.lt_of (h.a2S x hx)
    omega
  · exact fun x y hx hy => (hne1 x hx).2.2.2 y hy
  · intro k hk
    rcases List.mem_cons.1 hk with e | hk
    · subst e
      exact ⟨by omega, Nat.lt_of_lt_of_le hgl fBD.size⟩
    · rcases List.mem_append.1 hk with hk | hk
      · obtain ⟨x, hx, rfl⟩ := mem_blkOf.1 hk
        have := ownsRow_lt ho (show (Value.slice a1' (all.length + 1) c1').ownBlock = some x.block by rw [hx]; rfl)
        exact ⟨this.1, Nat.lt_of_lt_of_le this.2 fCD.size⟩
      · exact ⟨(h.Slt k hk).1, Nat.lt_of_lt_of_le (h.Slt k hk).2 (Nat.le_trans hsz fBD.size)⟩
  · simp
  · refine (hf.mono (T := S) (by simp)).trans (fBD.mono (fun k _ hk => ?_))
    rcases List.mem_cons.1 hk with e | hk
    · exact e ▸ h.hbS
    · obtain ⟨x, hx, e⟩ := mem_blkOf.1 hk
      exact e ▸ h.a1S x hx
theorem XI.addSaved (h : XI HT PT SU ST w base hb kind p q all saved bs ss a1 c1 a2 c2 S) {wB wC : World} {g c c2' : Nat} {a2' : Option Addr} {data : XS} (hf : Fr [] w wB) (hH : Sl wB (some ⟨g, 0, none⟩) (207 + p.ini.length) c (marX p data)) (hg : w.heap.size ≤ g)
    (ho : wC.ownsRow base SU 1 (.slice a2' (saved.length + 1) c2') (saved.length + 1) (ss.map (slx (207 + p.ini.length)) ++ [slx (207 + p.ini.length) (g, c)])) (hgr : wB.grownBy wC (Value.slice a2 saved.length c2).ownBlock) (ha : a2' = a2 ∨ a2' = some ⟨wB.heap.size, 0, none⟩) :
    XI HT PT SU ST (wC.setCell ⟨hb, 4, none⟩ (.slice a2' (saved.length + 1) c2')) base hb kind p q all (saved ++ [data]) bs (ss ++ [(g, c)]) a1 c1 a2' c2' (blkOf a2' ++ S) ∧ Fr S w (wC.setCell ⟨hb, 4, none⟩ (.slice a2' (saved.length + 1) c2')) := by
  have hbl := h.lt_of h.hbS
  have hgl : g < wB.heap.size := hH.lt (x := ⟨g, 0, none⟩) rfl (by omega)
  have hsz := hf.size
  have fBC : Fr (blkOf a2) wB wC := by
    rw [← ownBlock_blkOf a2 saved.length c2]
    exact (Fr.refl _ _).grown hgr (fun k hk => by rw [hk]; exact .inr (by simp))
  have fCD : Fr [hb] wC (wC.setCell ⟨hb, 4, none⟩ (.slice a2' (saved.length + 1) c2')) := (Fr.refl _ _).setCell _ _ (.inr (by simp))
  have hne1 : ∀ x, a2' = some x → x.block ≠ hb ∧ x.block ∉ bs ∧ x.block ≠ g ∧ (∀ y, a1 = some y → y.block ≠ x.block) := fun x hx => by
    rcases ha with rfl | rfl
    · refine ⟨(h.a2bs x hx).1, (h.a2bs x hx).2, ?_, fun y hy => h.a12 y x hy hx⟩
      have := h.lt_of (h.a2S x hx)
      omega
    · simp only [Option.some.injEq] at hx
      subst hx
      refine ⟨by simp only; omega, fun hm => ?_, by simp only; omega, fun y hy => ?_⟩
      · have := h.lt_of (h.bsS _ hm)
        simp only at this
        omega
      · have := h.lt_of (h.a1S y hy)
        simp only
        omega
  have hblkC : wC.heap[hb]? = some (.cells #[.int .i64 kind, .slice q.an q.nn q.cn, .slice q.ac q.nc q.cc, .slice a1 all.length c1, .slice a2 saved.length c2] HT (0, 0)) := by
    refine fBC.obj (hf.obj h.blk (by simp)) (fun hm => ?_)
    obtain ⟨x, hx, e⟩ := mem_blkOf.1 hm
    exact (h.a2bs x hx).1 e
  have fBD : Fr (hb :: blkOf a2) wB (wC.setCell ⟨hb, 4, none⟩ (.slice a2' (saved.length + 1) c2')) :=
    ⟨fCD.os.trans fBC.os, fCD.tape.trans fBC.tape, fCD.output.trans fBC.output, Nat.le_trans fBC.size fCD.size, fun k hk hs => by
      rw [fCD.block k (Nat.lt_of_lt_of_le hk fBC.size) (fun x => hs (by simp at x; simp [x])), fBC.block k hk (fun x => hs (by simp [x]))]⟩
  have hSub : ∀ k ∈ hb :: blkOf a2, k ∈ S := fun k hk => by
    rcases List.mem_cons.1 hk with e | hk
    · exact e ▸ h.hbS
    · obtain ⟨x, hx, e⟩ := mem_blkOf.1 hk
      exact e ▸ h.a2S x hx
  have hnc := (h.nc.keep hf (by simp)).keep fBD (fun k hk => (h.Slt k (hSub k hk)).1)
  have hg1 : ∀ k ∈ blkOf a2' ++ S, k ∈ S ∨ w.heap.size ≤ k := fun k hk => by
    rcases List.mem_append.1 hk with hk | hk
    · obtain ⟨x, hx, e⟩ := mem_blkOf.1 hk
      rcases ha with rfl | rfl
      · exact .inl (e ▸ h.a2S x hx)
      · simp only [Option.some.injEq] at hx
        subst hx
        simp only at e
        exact .inr (by omega)
    · exact .inl hk
  have hbsa : ∀ b ∈ bs, b ∉ hb :: blkOf a2 := fun b hb' hm => by
    rcases List.mem_cons.1 hm with e | hm
    · exact h.hbbs (e ▸ hb')
    · obtain ⟨x, hx, e⟩ := mem_blkOf.1 hm
      exact (h.a2bs x hx).2 (e ▸ hb')
  have hga : g ∉ hb :: blkOf a2 := fun hm => by
    rcases List.mem_cons.1 hm with e | hm
    · omega
    · obtain ⟨x, hx, e⟩ := mem_blkOf.1 hm
      have := h.lt_of (h.a2S x hx)
      omega
  refine ⟨⟨?_, h.bl, ?_, ?_, h.nodup, ?_, ?_, ?_, ?_, ?_, ?_, ?_, h.hbbs, h.a1bs, ?_, ?_, ?_, h.pos, h.rt, hnc⟩, ?_⟩
  · rw [Go.Sha.heap_setCell_same hblkC]
    simp
  · refine ownsRow_keep (ownsRow_keep h.rowA hf (by simp)) fBD (fun k hk => ?_)
    obtain ⟨x, hx, rfl⟩ := ownBlock_some hk
    intro hm
    rcases List.mem_cons.1 hm with e | hm
    · exact (h.a1bs x hx).1 e
    · obtain ⟨y, hy, e⟩ := mem_blkOf.1 hm
      exact h.a12 x y hx hy e.symm
  · exact fun i hi => (((h.hs i hi).more hg1).keep hf (by simp) (by simp)).keep fBD (hbsa _ (getD_mem (by rw [h.bl]; exact hi))) (fun k hk => .inl (by simp [hSub k hk]))
  · simp [h.sl]
  · rw [show (saved ++ [data]).length = saved.length + 1 by simp, List.map_append]
    refine ownsRow_keep ho fCD (fun k hk => ?_)
    obtain ⟨x, hx, rfl⟩ := ownBlock_some hk
    simpa using (hne1 x hx).1
  · intro i hi
    simp only [List.length_append, List.length_cons, List.length_nil] at hi
    by_cases e : i < saved.length
    · rw [getD_append_lt _ _ _ _ e, getD_append_lt _ _ _ _ (by rw [h.sl]; exact e)]
      have hs := h.sv i e
      have hlt := hs.1.lt (x := ⟨(ss.getD i (0, 0)).1, 0, none⟩) rfl (by omega)
      simp only at hlt
      refine ⟨(hs.1.keep0 hf).keep fBD (fun x hx _ hm => ?_), fun hm => ?_⟩
      · simp only [Option.some.injEq] at hx
        subst hx
        rcases List.mem_cons.1 hm with e | hm
        · simp only at e
          exact hs.2 (e ▸ h.hbS)
        · obtain ⟨y, hy, e⟩ := mem_blkOf.1 hm
          simp only at e
          exact hs.2 (e ▸ h.a2S y hy)
      · rcases List.mem_append.1 hm with hm | hm
        · obtain ⟨y, hy, e⟩ := mem_blkOf.1 hm
          rcases ha with rfl | rfl
          · exact hs.2 (e ▸ h.a2S y hy)
          · simp only [Option.some.injEq] at hy
            subst hy
            simp only at e
            omega
        · exact hs.2 hm
    · obtain rfl : i = saved.length := by omega
      have e2 : (ss ++ [(g, c)]).getD saved.length (0, 0) = (g, c) := by rw [← h.sl]; exact getD_append_eq ss (g, c) (0, 0)
      rw [getD_append_eq, e2]
      refine ⟨hH.keep fBD (fun x hx _ hm => ?_), fun hm => ?_⟩
      · simp only [Option.some.injEq] at hx
        subst hx
        exact hga hm
      · rcases List.mem_append.1 hm with hm | hm
        · obtain ⟨y, hy, e⟩ := mem_blkOf.1 hm
          exact (hne1 y hy).2.2.1 e
        · have := h.lt_of hm
          simp only at this
          omega
  · simp [h.hbS]
  · intro b hb'
    simp [h.bsS b hb']
  · intro x hx
    simp [h.a1S x hx]
  · intro x hx
    have : x.block ∈ blkOf a2' := mem_blkOf.2 ⟨x, hx, rfl⟩
    simp [this]
  · exact fun x hx => ⟨(hne1 x hx).1, (hne1 x hx).2.1⟩
  · exact fun x y hx hy => (hne1 y hy).2.2.2 x hx
  · intro k hk
    rcases List.mem_append.1 hk with hk | hk
    · obtain ⟨x, hx, rfl⟩ := mem_blkOf.1 hk
      have := ownsRow_lt ho (show (Value.slice a2' (saved.length + 1) c2').ownBlock = some x.block by rw [hx]; rfl)
      exact ⟨this.1, Nat.lt_of_lt_of_le this.2 fCD.size⟩
    · exact ⟨(h.Slt k hk).1, Nat.lt_of_lt_of_le (h.Slt k hk).2 (Nat.le_trans hsz fBD.size)⟩
  · refine (hf.mono (T := S) (by simp)).trans (fBD.mono (fun k _ hk => ?_))
    rcases List.mem_cons.1 hk with e | hk
    · exact e ▸ h.hbS
    · obtain ⟨x, hx, e⟩ := mem_blkOf.1 hk
      exact e ▸ h.a2S x hx
end
end Go.Sha
end

section
namespace Go.Sha
/-- how many bytes a number has, at least one -/
def nb (x : Nat) : Nat := if x < 256 then 1 else if x < 65536 then 2 else if x < 16777216 then 3 else if x < 4294967296 then 4 else if x < 1099511627776 then 5 else if x < 281474976710656 then 6 else if x < 72057594037927936 then 7 else 8
/-- the last k bytes of a number -/
def be (x : Nat) : Nat → Bs
  | 0 => []
  | k + 1 => UInt8.ofNat (x / 256 ^ k) :: be x k
def lenc (x : Nat) : Bs := UInt8.ofNat (nb x) :: be x (nb x)
theorem be_length (x k : Nat) : (be x k).length = k := by
  induction k with
  | zero => rfl
  | succ k ih => simp [be, ih]
theorem lenc_length (x : Nat) : (lenc x).length = nb x + 1 := by simp [lenc, be_length]
theorem nb_le (x : Nat) : 1 ≤ nb x ∧ nb x ≤ 8 := by
  unfold nb
  repeat' split
  all_goals omega
theorem be_drop (x k j : Nat) (h : j ≤ k) : (be x k).drop (k - j) = be x j := by
  induction k with
  | zero => obtain rfl : j = 0 := by omega
            rfl
  | succ k ih =>
    by_cases e : j = k + 1
    · subst e; simp
    · rw [show k + 1 - j = (k - j) + 1 by omega]
      simp only [be, List.drop_succ_cons]
      exact ih (by omega)
theorem bitLen_pos (x : Nat) (h0 : x ≠ 0) (h : x < 18446744073709551616) : 1 ≤ Go.Lib.bitLen x := by
  rw [Go.Lib.bitLen_half x h0 h]
  omega
theorem nb_bit (x : Nat) (h0 : x ≠ 0) (hx : x < 18446744073709551616) : (Go.Lib.bitLen x + 7) / 8 = nb x := by
  unfold nb
  split
  · have := Go.Lib.bitLen_le x 8 (by decide) (by omega)
    have := bitLen_pos x h0 hx
    omega
  split
  · have := Go.Lib.bitLen_shift8 x (by omega) hx
    have := Go.Lib.bitLen_le (x / 256) 8 (by decide) (by omega)
    have := bitLen_pos (x / 256) (by omega) (by omega)
    omega
  split
  · have := Go.Lib.bitLen_shift16 x (by omega) hx
    have := Go.Lib.bitLen_le (x / 65536) 8 (by decide) (by omega)
    have := bitLen_pos (x / 65536) (by omega) (by omega)
    omega
  split
  · have := Go.Lib.bitLen_shift24 x (by omega) hx
    have := Go.Lib.bitLen_le (x / 16777216) 8 (by decide) (by omega)
    have := bitLen_pos (x / 16777216) (by omega) (by omega)
    omega
  split
  · have := Go.Lib.bitLen_shift32 x (by omega) hx
    have := Go.Lib.bitLen_le (x / 4294967296) 8 (by decide) (by omega)
    have := bitLen_pos (x / 4294967296) (by omega) (by omega)
    omega
  split
  · have := Go.Lib.bitLen_shift40 x (by omega) hx
    have := Go.Lib.bitLen_le (x / 1099511627776) 8 (by decide) (by omega)
    have := bitLen_pos (x / 1099511627776) (by omega) (by omega)
    omega
  split
  · have := Go.Lib.bitLen_shift48 x (by omega) hx
    have := Go.Lib.bitLen_le (x / 281474976710656) 8 (by decide) (by omega)
    have := bitLen_pos (x / 281474976710656) (by omega) (by omega)
    omega
  · have := Go.Lib.bitLen_shift56 x (by omega) hx
    have := Go.Lib.bitLen_le (x / 72057594037927936) 8 (by decide) (by omega)
    have := bitLen_pos (x / 72057594037927936) (by omega) (by omega)
    omega
def encS (s : Bs) : Bs := lenc (8 * s.length) ++ s
/-- bytes behind a number, up to a multiple of it -/
def bpad (r : Nat) (x : Bs) : Bs := lenc r ++ x ++ List.replicate ((r - (nb r + 1 + x.length) % r) % r) 0
def iniOf (n s : Bs) : Bs := encS n ++ encS s
theorem encS_length (s : Bs) : (encS s).length = nb (8 * s.length) + 1 + s.length := by simp [encS, lenc_length]
/-- the parameters of an extendable output function of a kind -/
def xpOf (k : Nat) (n s : Bs) : XP :=
  if k = 0 then ⟨168, 32, 31, 9, [], []⟩
  else if k = 1 ∨ k = 2 then ⟨136, 64, 31, 9, [], []⟩
  else if n.length = 0 ∧ s.length = 0 then (if k = 3 then ⟨168, 32, 31, 9, [], []⟩ else ⟨136, 64, 31, 9, [], []⟩)
  else if k = 3 then ⟨168, 32, 4, 10, iniOf n s, bpad 168 (iniOf n s)⟩
  else ⟨136, 64, 4, 10, iniOf n s, bpad 136 (iniOf n s)⟩
theorem xpOf_ok (k : Nat) (n s : Bs) : (xpOf k n s).Ok := by
  unfold xpOf
  repeat' split
  all_goals exact ⟨by simp, by simp, by simp, by simp, by simp⟩
end Go.Sha
end
