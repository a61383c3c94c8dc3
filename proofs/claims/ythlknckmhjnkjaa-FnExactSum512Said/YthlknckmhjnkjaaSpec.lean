/- The reference's functions of bytes: each returns, in new memory, the output of the library's sponge. Lengths whose bits a machine's addresses can tell apart. -/
import Derived.Test.YthlknckmhjnkjaaSpgB
namespace Go.Proofs.Ythlknckmhjnkjaa
open Go.ChangeShapes Go.WideShapes Go.ChangeAt Go.RowKit Go.Sha

set_option maxHeartbeats 1000000 in
theorem squeezed_any (ad : Option Addr) (nd cd : Nat) (data : Bs) (a1 : Option Addr) (nt ct : Nat) (t : Bits) (ds : UInt8) (r out L : Nat) (w : World) (hS : Sl w ad nd cd data) (hT : SlB w a1 nt ct t) (hD : Dom ds t) (h0 : 0 < r) (hr : r ≤ 168) (hn : 8 * nd + 2000 ≤ 140737488355328) (hL : L ≤ 1099511627776) :
    Calls Try.prog 39 #[.slice ad nd cd, .slice a1 nt ct, .int .i64 (r : Int), .int .i64 (L : Int)] w (RetO 5 (xof r out ds data L) w) := by
  obtain ⟨i0, hi, hz0, hz1, hz2⟩ := info_parts info4
  have hnt : nt ≤ 6 := by rw [← hT.len]; exact hD.len
  have HT := Lib.hid hT
  have HS := Lib.hid hS
  have HD := Lib.hid hD
  clear hT hS hD
  go_enter Try.func39, Try.ntmps39
  go_wp2_with fail
  refine (bitsOf_any _ _ _ _ _ HS.out (by omega)).mono ?_
  rintro e w1 ⟨a2, c2, rfl, O1, f1⟩
  obtain ⟨n2, hn2⟩ : ∃ n2, n2 = (bitsB data).length := ⟨_, rfl⟩
  have hn2b : n2 ≤ 8 * nd := by rw [hn2, bitsB_length, HS.out.len]; omega
  rw [← hn2]
  have O2 : Hid (w1.ownsRow w.heap.size 4 1 (.slice a2 n2 c2) n2 ((bitsB data).map Value.bool)) := OwB.row O1 hn2.symm
  have HN := Lib.hid hn2
  obtain ⟨xs, hxs⟩ : ∃ xs, xs = (bitsB data).map Value.bool := ⟨_, rfl⟩
  rw [← hxs] at O2
  obtain ⟨ys, hys⟩ : ∃ ys, ys = t.map Value.bool := ⟨_, rfl⟩
  have Y0 : Hid (Src Try.prog 1 42 (.slice a1 nt ct) nt ys w1) := by rw [hys]; exact (HT.out.keep0 f1).src Try.underlying42
  have HX := Lib.hid (And.intro hxs hys)
  have X1 : Hid (n2 + nt ≤ maxLen) := by show _ ≤ _; unfold maxLen; omega
  have X2 : Hid ((n2 + nt) * 1 ≤ 140737488355328) := by show _ ≤ _; omega
  have X3 : Hid (w.heap.size ≤ w1.heap.size) := f1.size
  have HB : Hid (∀ x, a2 = some x → w.heap.size ≤ x.block) := fun x hx => by subst hx; exact O1.block.2.2.1
  clear hxs hys O1 hn2
  go_wp2_with (at_builtin; refine wpList_append_src _ rfl _ _ 42 42 rfl w.heap.size 4 i0 (.bool false) 1 1 Try.underlying42 hi hz0 hz1 hz2 rfl a2 n2 c2 xs rfl O2.out _ nt ys rfl Y0.out X1.out X2.out X3.out ?_)
  intro a3 c3 w3 ho hg
  have F3 : Fr [] w w3 := f1.grown hg (fun q hq => by
    cases a2 with
    | none => simp [Value.ownBlock] at hq
    | some ad =>
      have := HB.out ad rfl
      simp [Value.ownBlock] at hq
      omega)
  have hl3 : (bitsB data ++ t).length = n2 + nt := by rw [List.length_append, HN.out, HT.out.len]
  have O3 : OwB w3 w.heap.size 4 a3 c3 (bitsB data ++ t) := OwB.of ho hl3.symm (by rw [HX.out.1, HX.out.2, List.map_append])
  have S3 := Lib.hid (O3.sl_at hl3)
  clear ho hg O3 hl3 O2 Y0 X1 X2 X3 HB HX
  have g1 : IntKind.i64.wrap (8 * (r : Int)) = ((8 * r : Nat) : Int) := by rw [show 8 * (r : Int) = ((8 * r : Nat) : Int) by omega]; exact IntWalk.i64_in _ (by omega)
  have g2 : IntKind.i64.wrap (8 * (L : Int)) = ((8 * L : Nat) : Int) := by rw [show 8 * (L : Int) = ((8 * L : Nat) : Int) by omega]; exact IntWalk.i64_in _ (by omega)
  go_wp2_with fail
  have HC : Hid (Calls Try.prog 51 #[.slice a3 (n2 + nt) c3, .int .i64 (8 * (r : Int)), .int .i64 (8 * (L : Int))] w3 (RetX' w3 (8 * L) (bitsB (xof r out ds data L)))) := by
    have := sponge_any a3 (n2 + nt) c3 (bitsB data ++ t) (8 * r) (8 * L) w3 S3.out (by omega) (by omega) (by omega) (by omega)
    rw [spongeB_xof HD.out data r out L h0 hr] at this
    rwa [show ((8 * r : Nat) : Int) = 8 * (r : Int) by omega, show ((8 * L : Nat) : Int) = 8 * (L : Int) by omega] at this
  refine (HC.out).mono ?_
  rintro e w4 ⟨a4, c4, rfl, O4, f4⟩
  have hl4 : (bitsB (xof r out ds data L)).length = 8 * L := by rw [bitsB_length, xof_length]
  have S4 := Lib.hid (O4.sl_at hl4)
  clear O4 hl4 HC S3 g1 g2
  go_wp2_with fail
  refine (bytesOf_any _ _ _ _ _ S4.out (by omega)).mono ?_
  rintro e w5 ⟨a5, c5, rfl, O5, f5⟩
  have H5 := Lib.hid O5
  clear O5
  go_wp2_with fail
  go_ret
  refine ⟨a5, c5, rfl, H5.out.mono (Nat.le_trans F3.size f4.size), (F3.trans f4).trans f5⟩

theorem shake_any (ad : Option Addr) (nd cd : Nat) (data : Bs) (r out L : Nat) (w : World) (hS : Sl w ad nd cd data) (h0 : 0 < r) (hr : r ≤ 168) (hn : 8 * nd + 2000 ≤ 140737488355328) (hL : L ≤ 1099511627776) :
    Calls Try.prog 30 #[.slice ad nd cd, .int .i64 (r : Int), .int .i64 (L : Int)] w (RetO 5 (xof r out 31 data L) w) := by
  have f1 : Fr [] w (w.alloc (.cells #[.bool true, .bool true, .bool true, .bool true] 4)) := (Fr.refl _ _).alloc _
  have T1 := Lib.hid (SlB.of_cells (l := [true, true, true, true]) (Go.heap_alloc_new w (.cells #[.bool true, .bool true, .bool true, .bool true] 4)) (by decide))
  have S1 := Lib.hid (hS.keep0 f1)
  clear hS
  go_enter Try.func30, Try.ntmps30
  go_wp2_with fail
  refine (squeezed_any _ _ _ data _ 4 4 [true, true, true, true] 31 r out L _ S1.out T1.out dom_shake h0 hr hn hL).mono ?_
  rintro e w2 ⟨a2, c2, rfl, O2, f2⟩
  have H2 := Lib.hid O2
  clear O2
  go_wp2_with fail
  go_ret
  exact ⟨a2, c2, rfl, H2.out.mono (by simp), f1.trans f2⟩

theorem digest_any (ad : Option Addr) (nd cd : Nat) (data : Bs) (size : Nat) (w : World) (hS : Sl w ad nd cd data) (h0 : 16 ≤ size) (hr : size ≤ 99) (hn : 8 * nd + 2000 ≤ 140737488355328) :
    Calls Try.prog 32 #[.slice ad nd cd, .int .i64 (size : Int)] w (RetO 5 (xof (200 - 2 * size) size 6 data size) w) := by
  have f1 : Fr [] w (w.alloc (.cells #[.bool false, .bool true] 4)) := (Fr.refl _ _).alloc _
  have T1 := Lib.hid (SlB.of_cells (l := [false, true]) (Go.heap_alloc_new w (.cells #[.bool false, .bool true] 4)) (by decide))
  have S1 := Lib.hid (hS.keep0 f1)
  clear hS
  go_enter Try.func32, Try.ntmps32
  go_wp2_with fail
  have HC : Hid (Calls Try.prog 39 #[.slice ad nd cd, .slice (some ⟨w.heap.size, 0, none⟩) 2 2, .int .i64 (200 - 2 * (size : Int)), .int .i64 (size : Int)] (w.alloc (.cells #[.bool false, .bool true] 4)) (RetO 5 (xof (200 - 2 * size) size 6 data size) (w.alloc (.cells #[.bool false, .bool true] 4)))) := by
    have := squeezed_any _ _ _ data _ 2 2 [false, true] 6 (200 - 2 * size) size size _ S1.out T1.out dom_sha (by omega) (by omega) hn (by omega)
    rwa [show ((200 - 2 * size : Nat) : Int) = 200 - 2 * (size : Int) by omega] at this
  refine (HC.out).mono ?_
  rintro e w2 ⟨a2, c2, rfl, O2, f2⟩
  have H2 := Lib.hid O2
  clear O2
  go_wp2_with fail
  go_ret
  exact ⟨a2, c2, rfl, H2.out.mono (by simp), f1.trans f2⟩

theorem specSum224_any (ad : Option Addr) (nd cd : Nat) (data : Bs) (w : World) (hS : Sl w ad nd cd data) (hn : 8 * nd + 2000 ≤ 140737488355328) :
    Calls Try.prog 17 #[.slice ad nd cd] w (RetO 5 (xof 144 28 6 data 28) w) := by
  go_enter Try.func17, Try.ntmps17
  go_wp2_with fail
  refine (digest_any ad nd cd data 28 w hS (by decide) (by decide) hn).mono ?_
  rintro e w2 ⟨a2, c2, rfl, O2, f2⟩
  have H2 := Lib.hid O2
  clear O2
  go_wp2_with fail
  go_ret
  exact ⟨a2, c2, rfl, H2.out, f2⟩

theorem specSum256_any (ad : Option Addr) (nd cd : Nat) (data : Bs) (w : World) (hS : Sl w ad nd cd data) (hn : 8 * nd + 2000 ≤ 140737488355328) :
    Calls Try.prog 23 #[.slice ad nd cd] w (RetO 5 (xof 136 32 6 data 32) w) := by
  go_enter Try.func23, Try.ntmps23
  go_wp2_with fail
  refine (digest_any ad nd cd data 32 w hS (by decide) (by decide) hn).mono ?_
  rintro e w2 ⟨a2, c2, rfl, O2, f2⟩
  have H2 := Lib.hid O2
  clear O2
  go_wp2_with fail
  go_ret
  exact ⟨a2, c2, rfl, H2.out, f2⟩

theorem specSum384_any (ad : Option Addr) (nd cd : Nat) (data : Bs) (w : World) (hS : Sl w ad nd cd data) (hn : 8 * nd + 2000 ≤ 140737488355328) :
    Calls Try.prog 25 #[.slice ad nd cd] w (RetO 5 (xof 104 48 6 data 48) w) := by
  go_enter Try.func25, Try.ntmps25
  go_wp2_with fail
  refine (digest_any ad nd cd data 48 w hS (by decide) (by decide) hn).mono ?_
  rintro e w2 ⟨a2, c2, rfl, O2, f2⟩
  have H2 := Lib.hid O2
  clear O2
  go_wp2_with fail
  go_ret
  exact ⟨a2, c2, rfl, H2.out, f2⟩

theorem specSum512_any (ad : Option Addr) (nd cd : Nat) (data : Bs) (w : World) (hS : Sl w ad nd cd data) (hn : 8 * nd + 2000 ≤ 140737488355328) :
    Calls Try.prog 27 #[.slice ad nd cd] w (RetO 5 (xof 72 64 6 data 64) w) := by
  go_enter Try.func27, Try.ntmps27
  go_wp2_with fail
  refine (digest_any ad nd cd data 64 w hS (by decide) (by decide) hn).mono ?_
  rintro e w2 ⟨a2, c2, rfl, O2, f2⟩
  have H2 := Lib.hid O2
  clear O2
  go_wp2_with fail
  go_ret
  exact ⟨a2, c2, rfl, H2.out, f2⟩

theorem specSHAKE128_any (ad : Option Addr) (nd cd : Nat) (data : Bs) (L : Nat) (w : World) (hS : Sl w ad nd cd data) (hn : 8 * nd + 2000 ≤ 140737488355328) (hL : L ≤ 1099511627776) :
    Calls Try.prog 14 #[.slice ad nd cd, .int .i64 (L : Int)] w (RetO 5 (xof 168 32 31 data L) w) := by
  go_enter Try.func14, Try.ntmps14
  go_wp2_with fail
  refine (shake_any ad nd cd data 168 32 L w hS (by decide) (by decide) hn hL).mono ?_
  rintro e w2 ⟨a2, c2, rfl, O2, f2⟩
  have H2 := Lib.hid O2
  clear O2
  go_wp2_with fail
  go_ret
  exact ⟨a2, c2, rfl, H2.out, f2⟩

theorem specSHAKE256_any (ad : Option Addr) (nd cd : Nat) (data : Bs) (L : Nat) (w : World) (hS : Sl w ad nd cd data) (hn : 8 * nd + 2000 ≤ 140737488355328) (hL : L ≤ 1099511627776) :
    Calls Try.prog 16 #[.slice ad nd cd, .int .i64 (L : Int)] w (RetO 5 (xof 136 64 31 data L) w) := by
  go_enter Try.func16, Try.ntmps16
  go_wp2_with fail
  refine (shake_any ad nd cd data 136 64 L w hS (by decide) (by decide) hn hL).mono ?_
  rintro e w2 ⟨a2, c2, rfl, O2, f2⟩
  have H2 := Lib.hid O2
  clear O2
  go_wp2_with fail
  go_ret
  exact ⟨a2, c2, rfl, H2.out, f2⟩

end Go.Proofs.Ythlknckmhjnkjaa
