/- A sponge's state as bytes: AppendBinary, MarshalBinary. The sponge's rate and place are less than 256. -/
import Derived.Test.YtjgdbamlaajkmaaShaB
import Derived.Deep.RegionLaw
namespace Go.Sha
open Go.RowKit
/-- the state as bytes -/
def mar (m : UInt8) (d : Dg) : Bs := [115, 104, 97, m] ++ [UInt8.ofNat d.rate] ++ d.a ++ [UInt8.ofNat d.n, UInt8.ofNat d.st]
theorem mar_length (m : UInt8) (d : Dg) (h : d.a.length = 200) : (mar m d).length = 207 := by simp [mar, h]
theorem DgAt.sl {w : World} {b T : Nat} {ext : List Value} {d : Dg} (h : DgAt w b T ext d) : Sl w (some ⟨b, 0, none⟩) 200 200 d.a :=
  ⟨h.1, Nat.le_refl _, by simp [maxLen], .inr ⟨b, 0, rfl, fun i hi => by rw [Nat.zero_add]; exact h.byte hi⟩⟩
theorem Sl.two (w : World) (u v : UInt8) (e : Nat) : Sl (w.alloc (.cells #[.int .u8 u.toNat, .int .u8 v.toNat] e)) (some ⟨w.heap.size, 0, none⟩) 2 2 [u, v] := by
  refine ⟨rfl, Nat.le_refl _, by simp [maxLen], .inr ⟨w.heap.size, 0, rfl, fun i hi => ?_⟩⟩
  have h : (w.alloc (.cells #[.int .u8 u.toNat, .int .u8 v.toNat] e)).heap[w.heap.size]? = some (.cells #[.int .u8 u.toNat, .int .u8 v.toNat] e) := Go.heap_alloc_new w _
  simp only [World.cell?, h]
  obtain rfl | rfl : i = 0 ∨ i = 1 := by omega
  · rfl
  · rfl
theorem Below.drew1 {base : Nat} {w0 w : World} (h : Below base w0 w) : Below base w0 w.drew := ⟨h.os, h.tape, h.output, h.size, h.block⟩
end Go.Sha
namespace Go.Proofs.Ytjgdbamlaajkmaa
open Go.ChangeShapes Go.WideShapes Go.ChangeAt Go.RowKit Go.Sha

attribute [local irreducible] wpStill in
set_option maxRecDepth 100000 in
set_option maxHeartbeats 1600000 in
theorem appendBinary_sha (w : World) (b T : Nat) (ext : List Value) (d : Dg) (a0 : Option Addr) (n0 c0 base : Nat) (L0 : Bs) (h : DgAt w b T ext d) (hds : d.ds = 6) (hl : L0.length = n0) (hO : Ow w base 5 a0 c0 L0) (hb : base ≤ w.heap.size) (hbb : b < base) (hn : n0 + 207 ≤ 140737488355328) (hr : d.rate ≤ 255) (hdn : d.n ≤ 255) (hst : d.st ≤ 255) :
    Calls Try.prog 61 #[.pointer (some ⟨b, 0, none⟩), .slice a0 n0 c0] w fun e w' => ∃ a c, e = .returned (.tuple #[.slice a (n0 + 207) c, .nilIface]) ∧ Ow w' base 5 a c (L0 ++ mar 8 d) ∧ Below base w w' := by
  obtain ⟨i0, hi, hz0, hz1, hz2⟩ := info_parts info5
  obtain ⟨da, dn, dr, dd, dou, dst⟩ := d
  simp only at hds hr hdn hst
  subst hds
  obtain ⟨ub, rfl⟩ : ∃ ub : UInt8, dr = ub.toNat := ⟨UInt8.ofNat dr, by rw [UInt8.toNat_ofNat']; omega⟩
  obtain ⟨un, rfl⟩ : ∃ un : UInt8, dn = un.toNat := ⟨UInt8.ofNat dn, by rw [UInt8.toNat_ofNat']; omega⟩
  obtain ⟨us, rfl⟩ : ∃ us : UInt8, dst = us.toNat := ⟨UInt8.ofNat dst, by rw [UInt8.toNat_ofNat']; omega⟩
  have q1 : w.cell? ⟨b, 202, none⟩ = some (.int .u8 6) := h.cds
  have hda := Lib.hid h.1
  have t6 : ((6 : Int) == 6) = true := by decide
  have HD := Lib.hid h
  have HO := Lib.hid hO
  have HN := Lib.hid hl
  have HB : Hid (Below base w w) := Below.refl _ _
  clear h hO hl
  obtain ⟨xs, hxs⟩ : ∃ xs, xs = L0.map bv := ⟨_, rfl⟩
  obtain ⟨ys, hys⟩ : ∃ ys, ys = ([115, 104, 97, 8]).map bv := ⟨_, rfl⟩
  have O1 : Hid ((w).ownsRow base 5 1 (.slice a0 n0 c0) n0 xs) := by rw [hxs]; exact Ow.row' HO.out HN.out
  have Y1 : Hid (Src Try.prog 1 9 (.string ⟨#[115, 104, 97, 8]⟩) 4 ys (w)) := by rw [hys]; exact Src.ofString w Try.underlying9 ⟨#[115, 104, 97, 8]⟩
  have HX := Lib.hid (And.intro hxs hys)
  clear hxs hys
  have X1 : Hid (n0 + 4 ≤ maxLen) := by show _ ≤ _; unfold maxLen; omega
  have X2 : Hid ((n0 + 4) * 1 ≤ 140737488355328) := by show _ ≤ _; omega
  have X3 : Hid (base ≤ (w).heap.size) := by show _ ≤ _; have := HB.out.size; omega
  go_enter Try.func61, Try.ntmps61
  go_wp2_with (at_builtin; refine wpList_append_src _ rfl _ _ 22 9 rfl base 5 i0 (.int .u8 0) 1 1 Try.underlying22 hi hz0 hz1 hz2 rfl a0 n0 c0 xs rfl O1.out _ 4 ys rfl Y1.out X1.out X2.out X3.out ?_)
  intro a1 c1 w1 ho hg
  have HB' : Below base w w1 := HB.out.trans ((((Fr.refl _ _).grown hg (fun q hq => by rw [hq]; exact .inr (by simp))) : Fr (Value.slice a0 n0 c0).ownBlock.toList (w) w1).belowB base X3.out HO.out.own_ge)
  have HO' : Ow w1 base 5 a1 c1 (L0 ++ [115, 104, 97, 8]) := Ow.of ho (by rw [List.length_append, HN.out]; rfl) (by rw [HX.out.1, HX.out.2, List.map_append])
  have HN' : (L0 ++ [115, 104, 97, 8]).length = n0 + 4 := by rw [List.length_append, HN.out]; rfl
  have HD' := HD.out.below ((((Fr.refl _ _).grown hg (fun q hq => by rw [hq]; exact .inr (by simp))) : Fr (Value.slice a0 n0 c0).ownBlock.toList (w) w1).belowB base X3.out HO.out.own_ge) hbb
  clear ho hg O1 Y1 X1 X2 X3 HX HO HN HB HD
  obtain ⟨L1, hL1⟩ : ∃ L1, L1 = L0 ++ [115, 104, 97, 8] := ⟨_, rfl⟩
  rw [← hL1] at HO' HN'
  generalize hn1 : n0 + 4 = n1 at HN' ⊢
  have hnb1 : n1 + 203 ≤ 140737488355328 := by omega
  have HL1 := Lib.hid (And.intro hL1 hn1)
  have HO := Lib.hid HO'
  have HN := Lib.hid HN'
  have HB := Lib.hid HB'
  have HD := Lib.hid HD'
  clear HO' HN' HB' HD' hL1 hn1
  clear q1
  have q2 := HD.out.crate
  simp only at q2
  have S1 := Lib.hid (Sl.one w1 ub 5)
  have HO1 := Lib.hid (HO.out.keep0 ((Fr.refl _ _).alloc (.cells #[.int .u8 ub.toNat] 5)))
  have HB1 : Hid (Below base w (w1.alloc (.cells #[.int .u8 ub.toNat] 5))) := HB.out.alloc (by have := HB.out.size; omega) _
  have HD1 := Lib.hid (HD.out.keep ((Fr.refl [] _).alloc (.cells #[.int .u8 ub.toNat] 5)) (by simp))
  clear HO HB HD
  have HO := HO1
  have HB := HB1
  have HD := HD1
  clear HO1 HB1 HD1
  obtain ⟨xs, hxs⟩ : ∃ xs, xs = L1.map bv := ⟨_, rfl⟩
  obtain ⟨ys, hys⟩ : ∃ ys, ys = ([ub]).map bv := ⟨_, rfl⟩
  have O1 : Hid ((w1.alloc (.cells #[.int .u8 ub.toNat] 5)).ownsRow base 5 1 (.slice a1 n1 c1) n1 xs) := by rw [hxs]; exact Ow.row' HO.out HN.out
  have Y1 : Hid (Src Try.prog 1 22 (.slice (some ⟨w1.heap.size, 0, none⟩) 1 1) 1 ys (w1.alloc (.cells #[.int .u8 ub.toNat] 5))) := by rw [hys]; exact S1.out.src Try.underlying22
  have HX := Lib.hid (And.intro hxs hys)
  clear hxs hys
  have X1 : Hid (n1 + 1 ≤ maxLen) := by show _ ≤ _; unfold maxLen; omega
  have X2 : Hid ((n1 + 1) * 1 ≤ 140737488355328) := by show _ ≤ _; omega
  have X3 : Hid (base ≤ (w1.alloc (.cells #[.int .u8 ub.toNat] 5)).heap.size) := by show _ ≤ _; have := HB.out.size; omega
  go_wp2_with (at_builtin; refine wpList_append_src _ rfl _ _ 22 22 rfl base 5 i0 (.int .u8 0) 1 1 Try.underlying22 hi hz0 hz1 hz2 rfl a1 n1 c1 xs rfl O1.out _ 1 ys rfl Y1.out X1.out X2.out X3.out ?_)
  intro a2 c2 w2 ho hg
  have HB' : Below base w w2 := HB.out.trans ((((Fr.refl _ _).grown hg (fun q hq => by rw [hq]; exact .inr (by simp))) : Fr (Value.slice a1 n1 c1).ownBlock.toList (w1.alloc (.cells #[.int .u8 ub.toNat] 5)) w2).belowB base X3.out HO.out.own_ge)
  have HO' : Ow w2 base 5 a2 c2 (L1 ++ [ub]) := Ow.of ho (by rw [List.length_append, HN.out]; rfl) (by rw [HX.out.1, HX.out.2, List.map_append])
  have HN' : (L1 ++ [ub]).length = n1 + 1 := by rw [List.length_append, HN.out]; rfl
  have HD' := HD.out.below ((((Fr.refl _ _).grown hg (fun q hq => by rw [hq]; exact .inr (by simp))) : Fr (Value.slice a1 n1 c1).ownBlock.toList (w1.alloc (.cells #[.int .u8 ub.toNat] 5)) w2).belowB base X3.out HO.out.own_ge) hbb
  clear ho hg O1 Y1 X1 X2 X3 HX HO HN HB HD
  obtain ⟨L2, hL2⟩ : ∃ L2, L2 = L1 ++ [ub] := ⟨_, rfl⟩
  rw [← hL2] at HO' HN'
  generalize hn2 : n1 + 1 = n2 at HN' ⊢
  have hnb2 : n2 + 202 ≤ 140737488355328 := by omega
  have HL2 := Lib.hid (And.intro hL2 hn2)
  have HO := Lib.hid HO'
  have HN := Lib.hid HN'
  have HB := Lib.hid HB'
  have HD := Lib.hid HD'
  clear HO' HN' HB' HD' hL2 hn2
  clear q2 S1
  have S2 := Lib.hid HD.out.sl
  simp only at S2
  obtain ⟨xs, hxs⟩ : ∃ xs, xs = L2.map bv := ⟨_, rfl⟩
  obtain ⟨ys, hys⟩ : ∃ ys, ys = (da).map bv := ⟨_, rfl⟩
  have O1 : Hid ((w2).ownsRow base 5 1 (.slice a2 n2 c2) n2 xs) := by rw [hxs]; exact Ow.row' HO.out HN.out
  have Y1 : Hid (Src Try.prog 1 22 (.slice (some ⟨b, 0, none⟩) 200 200) 200 ys (w2)) := by rw [hys]; exact S2.out.src Try.underlying22
  have HX := Lib.hid (And.intro hxs hys)
  clear hxs hys
  have X1 : Hid (n2 + 200 ≤ maxLen) := by show _ ≤ _; unfold maxLen; omega
  have X2 : Hid ((n2 + 200) * 1 ≤ 140737488355328) := by show _ ≤ _; omega
  have X3 : Hid (base ≤ (w2).heap.size) := by show _ ≤ _; have := HB.out.size; omega
  go_wp2_with (at_builtin; refine wpList_append_src _ rfl _ _ 22 22 rfl base 5 i0 (.int .u8 0) 1 1 Try.underlying22 hi hz0 hz1 hz2 rfl a2 n2 c2 xs rfl O1.out _ 200 ys rfl Y1.out X1.out X2.out X3.out ?_)
  intro a3 c3 w3 ho hg
  have HB' : Below base w w3 := HB.out.trans ((((Fr.refl _ _).grown hg (fun q hq => by rw [hq]; exact .inr (by simp))) : Fr (Value.slice a2 n2 c2).ownBlock.toList (w2) w3).belowB base X3.out HO.out.own_ge)
  have HO' : Ow w3 base 5 a3 c3 (L2 ++ da) := Ow.of ho (by rw [List.length_append, HN.out, hda.out]) (by rw [HX.out.1, HX.out.2, List.map_append])
  have HN' : (L2 ++ da).length = n2 + 200 := by rw [List.length_append, HN.out, hda.out]
  have HD' := HD.out.below ((((Fr.refl _ _).grown hg (fun q hq => by rw [hq]; exact .inr (by simp))) : Fr (Value.slice a2 n2 c2).ownBlock.toList (w2) w3).belowB base X3.out HO.out.own_ge) hbb
  clear ho hg O1 Y1 X1 X2 X3 HX HO HN HB HD
  obtain ⟨L3, hL3⟩ : ∃ L3, L3 = L2 ++ da := ⟨_, rfl⟩
  rw [← hL3] at HO' HN'
  generalize hn3 : n2 + 200 = n3 at HN' ⊢
  have hnb3 : n3 + 2 ≤ 140737488355328 := by omega
  have HL3 := Lib.hid (And.intro hL3 hn3)
  have HO := Lib.hid HO'
  have HN := Lib.hid HN'
  have HB := Lib.hid HB'
  have HD := Lib.hid HD'
  clear HO' HN' HB' HD' hL3 hn3
  clear S2
  go_wp2_with fail
  have q3 := HD.out.cn
  have q4 := HD.out.cst
  simp only at q3 q4
  have cv1 : IntKind.u8.wrap (un.toNat : Int) = (un.toNat : Int) := wrap_u8 _ un.toNat_lt
  have cv2 : IntKind.u8.wrap (us.toNat : Int) = (us.toNat : Int) := wrap_u8 _ us.toNat_lt
  have S3 : Hid (Sl ((w3.alloc (.cells #[.int .u8 un.toNat, .int .u8 us.toNat] 5)).drew) (some ⟨w3.heap.size, 0, none⟩) 2 2 [un, us]) := (Sl.two w3 un us 5).keep0 (Fr.refl _ _).drew
  have HO1 := Lib.hid (HO.out.keep0 ((Fr.refl _ _).alloc (.cells #[.int .u8 un.toNat, .int .u8 us.toNat] 5)))
  have HB1 : Hid (Below base w (w3.alloc (.cells #[.int .u8 un.toNat, .int .u8 us.toNat] 5))) := HB.out.alloc (by have := HB.out.size; omega) _
  have HD1 := Lib.hid (HD.out.keep ((Fr.refl [] _).alloc (.cells #[.int .u8 un.toNat, .int .u8 us.toNat] 5)) (by simp))
  clear HO HB HD
  have HO := HO1
  have HB := HB1
  have HD := HD1
  clear HO1 HB1 HD1
  have HO3 : Hid (Ow ((w3.alloc (.cells #[.int .u8 un.toNat, .int .u8 us.toNat] 5)).drew) base 5 a3 c3 L3) := HO
  have HB3 : Hid (Below base w ((w3.alloc (.cells #[.int .u8 un.toNat, .int .u8 us.toNat] 5)).drew)) := Below.drew1 HB.out
  have HD3 : Hid (DgAt ((w3.alloc (.cells #[.int .u8 un.toNat, .int .u8 us.toNat] 5)).drew) b T ext _) := HD
  clear HD HO HB
  have HD := HD3
  have HO := HO3
  have HB := HB3
  clear HD3 HO3 HB3
  obtain ⟨xs, hxs⟩ : ∃ xs, xs = L3.map bv := ⟨_, rfl⟩
  obtain ⟨ys, hys⟩ : ∃ ys, ys = ([un, us]).map bv := ⟨_, rfl⟩
  have O1 : Hid (((w3.alloc (.cells #[.int .u8 un.toNat, .int .u8 us.toNat] 5)).drew).ownsRow base 5 1 (.slice a3 n3 c3) n3 xs) := by rw [hxs]; exact Ow.row' HO.out HN.out
  have Y1 : Hid (Src Try.prog 1 22 (.slice (some ⟨w3.heap.size, 0, none⟩) 2 2) 2 ys ((w3.alloc (.cells #[.int .u8 un.toNat, .int .u8 us.toNat] 5)).drew)) := by rw [hys]; exact S3.out.src Try.underlying22
  have HX := Lib.hid (And.intro hxs hys)
  clear hxs hys
  have X1 : Hid (n3 + 2 ≤ maxLen) := by show _ ≤ _; unfold maxLen; omega
  have X2 : Hid ((n3 + 2) * 1 ≤ 140737488355328) := by show _ ≤ _; omega
  have X3 : Hid (base ≤ ((w3.alloc (.cells #[.int .u8 un.toNat, .int .u8 us.toNat] 5)).drew).heap.size) := by show _ ≤ _; have := HB.out.size; omega
  go_region_law ((refine step_append_src _ rfl _ _ 22 22 rfl base 5 i0 (.int .u8 0) 1 1 Try.underlying22 hi hz0 hz1 hz2 rfl a3 n3 c3 xs rfl O1.out _ 2 ys rfl Y1.out X1.out X2.out X3.out ?_; intro a4 c4 w4 ho hg))
  all_goals
    have HB' : Below base w w4 := HB.out.trans ((((Fr.refl _ _).grown hg (fun q hq => by rw [hq]; exact .inr (by simp))) : Fr (Value.slice a3 n3 c3).ownBlock.toList ((w3.alloc (.cells #[.int .u8 un.toNat, .int .u8 us.toNat] 5)).drew) w4).belowB base X3.out HO.out.own_ge)
    have HO' : Ow w4 base 5 a4 c4 (L3 ++ [un, us]) := Ow.of ho (by rw [List.length_append, HN.out]; rfl) (by rw [HX.out.1, HX.out.2, List.map_append])
    have HN' : (L3 ++ [un, us]).length = n3 + 2 := by rw [List.length_append, HN.out]; rfl
    have HD' := HD.out.below ((((Fr.refl _ _).grown hg (fun q hq => by rw [hq]; exact .inr (by simp))) : Fr (Value.slice a3 n3 c3).ownBlock.toList ((w3.alloc (.cells #[.int .u8 un.toNat, .int .u8 us.toNat] 5)).drew) w4).belowB base X3.out HO.out.own_ge) hbb
    clear ho hg O1 Y1 X1 X2 X3 HX HO HN HB HD
    obtain ⟨L4, hL4⟩ : ∃ L4, L4 = L3 ++ [un, us] := ⟨_, rfl⟩
    rw [← hL4] at HO' HN'
    generalize hn4 : n3 + 2 = n4 at HN' ⊢
    have hnb4 : n4 + 0 ≤ 140737488355328 := by omega
    have HL4 := Lib.hid (And.intro hL4 hn4)
    have HO := Lib.hid HO'
    have HN := Lib.hid HN'
    have HB := Lib.hid HB'
    have HD := Lib.hid HD'
    clear HO' HN' HB' HD' hL4 hn4
    clear S3
    go_wp2_with fail
    go_ret2
    have e1 : n4 = n0 + 207 := by rw [← HL4.out.2, ← HL3.out.2, ← HL2.out.2, ← HL1.out.2]
    have e2 : L4 = L0 ++ mar 8 ⟨da, un.toNat, ub.toNat, 6, dou, us.toNat⟩ := by
      rw [HL4.out.1, HL3.out.1, HL2.out.1, HL1.out.1]
      simp [mar, UInt8.ofNat_toNat]
    refine ⟨a4, c4, ?_, ?_, HB.out⟩
    · rw [← e1]
      rfl
    · rw [← e2]
      exact HO.out

end Go.Proofs.Ytjgdbamlaajkmaa
