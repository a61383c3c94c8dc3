/- FnExactSum224 to FnExactSum512: the thin package's result is the reference's, in memory of its own. No condition: the laws themselves bound the length. -/
import Derived.Test.YthlknckmhjnkjaaSpec
import Derived.Test.YthlknckmhjnkjaaSumN
import Derived.Test.YthlknckmhjnkjaaMark
import Derived.Test.YthlknckmhjnkjaaCmp
import Derived.Test.YthlknckmhjnkjaaToB
import Derived.Test.YthlknckmhjnkjaaBounded
namespace Go.Proofs.Ythlknckmhjnkjaa
open Go.ChangeShapes Go.WideShapes Go.ChangeAt Go.RowKit Go.Sha
theorem eqByteS_t (a0 b0 : Option Addr) (n m ca cb : Nat) (x y : Bs) (w : World) (hx : Sl w a0 n ca x) (hy : Sl w b0 m cb y) (h : x = y) :
    Calls Try.prog 20 #[.slice a0 n ca, .slice b0 m cb] w (RetB true w) := by
  have := eqByteS_any a0 b0 n m ca cb x y w hx hy
  rwa [show (x == y) = true by simpa using h] at this
/-- marks into a row of one's own -/
theorem markOw (w : World) (base n c k : Nat) (a : Option Addr) (l : Bs) (h : Ow w base 5 a c l) (hl : l.length = n) (hk : k + n ≤ 1099511627776) :
    Calls Try.prog 21 #[.slice a n c, .int .i64 (k : Int)] w fun e w' => e = .returned (.int .i64 ((k + n : Nat) : Int)) ∧ Fr (Value.slice a n c).ownBlock.toList w w' := by
  by_cases h0 : n = 0
  · subst h0
    go_enter Try.func21, Try.ntmps21
    go_wp2_with fail
    go_loop [1, 5] (fun kv iv => kv = .int .i64 (k : Int) ∧ iv = .int .i64 0) (fun _ _ => 0)
    case atStart => exact ⟨rfl, rfl⟩
    case round =>
      obtain ⟨rfl, rfl⟩ := hrel
      go_wp2_with fail
      go_ret
      refine ⟨?_, Fr.refl _ _⟩
      show Ending.returned (.int .i64 (k : Int)) = _
      exact ret_int (by simp)
  · obtain ⟨g, cur, rfl, hg, hh, h1, h2, h3, h4⟩ := h.open (by omega)
    unfold maxLen at h2
    refine (markByteS_any w g 5 cur n c k hh (by omega) (by omega) (by omega) hk).mono ?_
    rintro e w' ⟨rfl, _, f⟩
    exact ⟨rfl, f.mono (fun q _ hq => by simpa [Value.ownBlock] using hq)⟩

set_option maxHeartbeats 1600000 in
theorem exSum224_in (a0 : Option Addr) (n ca : Nat) (x : Bs) (w : World) (hx : Sl w a0 n ca x) (hnx : n ≤ 1048576) :
    Calls Try.prog 5 #[.slice a0 n ca] w (RetB true w) := by
  have hxl := Lib.hid hx.len
  have hd : decide (1048576 < n) = false := by simp; omega
  have F0 := Fr.refl [] w
  go_enter Try.func5, Try.ntmps5
  go_wp2_with fail
  clear hd
  refine (toByteS_any _ _ _ x _ (hx.keep0 F0) (by omega)).mono ?_
  rintro e w1 ⟨aT, cT, rfl, oT, G⟩
  have F1 := F0.trans G
  rw [hxl.out]
  have ST := oT.sl_at hxl.out
  clear oT G
  go_wp2_with fail
  refine (specSum224_any _ _ _ x _ ST (by omega)).mono ?_
  rintro e w2 ⟨aW, cW, rfl, oW, G⟩
  have F2 := F1.trans G
  obtain ⟨H, hH⟩ : ∃ H, H = xof 144 28 6 x 28 := ⟨_, rfl⟩
  have hHl : H.length = 28 := by rw [hH, xof_length]
  rw [← hH] at oW ⊢
  rw [hHl]
  have SW := Lib.hid (oW.sl_at hHl)
  have HH := Lib.hid hH
  have HHL := Lib.hid hHl
  clear oW G ST hH hHl F1
  go_wp2_with fail
  refine (toByteS_any _ _ _ x _ (hx.keep0 F2) (by omega)).mono ?_
  rintro e w3 ⟨aT, cT, rfl, oT, G⟩
  have F3 := F2.trans G
  rw [hxl.out]
  have S3 := Lib.hid (SW.out.keep0 G)
  have hW3 : Hid (∀ y, aW = some y → y.block < w2.heap.size) := fun y hy => SW.out.lt hy (by decide)
  clear SW
  have hsz : Hid (w.heap.size ≤ w2.heap.size) := F2.size
  have hsz23 : Hid (w2.heap.size ≤ w3.heap.size) := G.size
  have hsz3 : Hid (w.heap.size ≤ w3.heap.size) := F3.size
  have OX := Lib.hid oT
  have hX3 : Hid (∀ y, aT = some y → w2.heap.size ≤ y.block ∧ y.block < w3.heap.size) := fun y hy => by subst hy; exact ⟨oT.block.2.2.1, oT.block.2.2.2⟩
  clear oT G F2
  go_wp2_with fail
  refine (implSum224_any _ _ _ _ x (OX.out.sl_at hxl.out)).mono ?_
  rintro e w4 ⟨gG, rfl, hgG, bG, G⟩
  rw [← HH.out] at bG
  have F4 := F3.trans G
  have S4 := Lib.hid (S3.out.keep0 G)
  have OX4 := Lib.hid (OX.out.keep0 G)
  have BG := Lib.hid bG
  clear S3 OX G bG F3
  go_wp2_with fail
  refine (eqByteS_t _ _ _ _ _ _ _ _ _ (BG.out.sl HHL.out (by simp [maxLen])) S4.out rfl).mono ?_
  rintro e w5 ⟨rfl, G⟩
  have F5 := F4.trans G
  have S5 := Lib.hid (S4.out.keep0 G)
  have OX5 := Lib.hid (OX4.out.keep0 G)
  have BG5 := Lib.hid (BkAt.keep BG.out G (by simp))
  clear S4 OX4 G BG F4
  go_wp2_with fail
  refine (toByteS_any _ _ _ x _ (hx.keep0 F5) (by omega)).mono ?_
  rintro e w6 ⟨aU, cU, rfl, oU, G⟩
  have F6 := F5.trans G
  rw [hxl.out]
  have S6 := Lib.hid (S5.out.keep0 G)
  have OX6 := Lib.hid (OX5.out.keep0 G)
  have BG6 := Lib.hid (BkAt.keep BG5.out G (by simp))
  have SU := Lib.hid (oU.sl_at hxl.out)
  clear S5 OX5 G BG5 F5 oU
  go_wp2_with fail
  refine (eqByteS_t _ _ _ _ _ _ _ _ _ (OX6.out.sl_at hxl.out) SU.out rfl).mono ?_
  rintro e w7 ⟨rfl, G⟩
  have F7 := F6.trans G
  have S7 := Lib.hid (S6.out.keep0 G)
  have OX7 := Lib.hid (OX6.out.keep0 G)
  have BG7 := Lib.hid (BkAt.keep BG6.out G (by simp))
  clear S6 OX6 G BG6 F6 SU
  go_wp2_with fail
  refine (markOw _ _ n cT 1 aT x OX7.out hxl.out (by omega)).mono ?_
  rintro e w8 ⟨rfl, G⟩
  have hown : ∀ q ∈ (Value.slice aT n cT).ownBlock.toList, w2.heap.size ≤ q ∧ q < w3.heap.size := fun q hq => by
    cases aT with
    | none => simp [Value.ownBlock] at hq
    | some y =>
      have := hX3.out y rfl
      simp [Value.ownBlock] at hq
      omega
  have hw2 : w.heap.size ≤ w2.heap.size := hsz.out
  have F8 := F7.via G (fun q hq => by have := (hown q hq).1; omega)
  have S8 := Lib.hid (S7.out.keep G (fun y hy _ hq => by have := hW3.out y hy; have := (hown _ hq).1; omega))
  have BG8 := Lib.hid (BkAt.keep BG7.out G (fun hq => by have := (hown _ hq).2; omega))
  clear S7 OX7 G BG7 F7 hown
  have hk1 : decide (((1 + n : Nat) : Int) < 0) = false := by simp; omega
  go_wp2_with fail
  clear hk1
  refine (eqByteS_t _ _ _ _ _ _ _ _ _ (BG8.out.sl HHL.out (by simp [maxLen])) S8.out rfl).mono ?_
  rintro e w9 ⟨rfl, G⟩
  have F9 := F8.trans G
  have S9 := Lib.hid (S8.out.keep0 G)
  have BG9 := Lib.hid (BkAt.keep BG8.out G (by simp))
  clear S8 G BG8 F8
  go_wp2_with fail
  refine (markByteS_any _ gG 32 _ 28 28 1 BG9.out (by simp [HHL.out]) (by decide) (by decide) (by decide)).mono ?_
  rintro e w10 ⟨rfl, b10, G⟩
  have hgw : w.heap.size ≤ gG := by have := hsz3.out; omega
  have F10 := F9.via G (fun q hq => by simp at hq; omega)
  have S10 := Lib.hid (S9.out.keep G (fun y hy _ hq => by have := hW3.out y hy; have := hsz23.out; simp at hq; omega))
  have BG10 : Hid (BkAt w10 gG 32 (marks 1 28)) := by
    rw [splice_full _ _ (by rw [marks_length]; simp [HHL.out])] at b10
    exact b10
  clear S9 G BG9 F9 b10
  go_wp2_with fail
  refine (heldByteS_any _ _ _ _ 1 (BG10.out.sl (marks_length _ _) (by simp [maxLen])) (by decide)).mono ?_
  rintro e w11 ⟨rfl, rfl⟩
  go_wp2_with fail
  refine (toByteS_any _ _ _ x _ (hx.keep0 F10) (by omega)).mono ?_
  rintro e w12 ⟨aV, cV, rfl, oV, G⟩
  have F12 := F10.trans G
  rw [hxl.out]
  have S12 := Lib.hid (S10.out.keep0 G)
  have BG12 := Lib.hid (BkAt.keep BG10.out G (by simp))
  have SV := Lib.hid (oV.sl_at hxl.out)
  clear S10 G BG10 F10 oV
  go_wp2_with fail
  refine (implSum224_any _ _ _ _ x SV.out).mono ?_
  rintro e w13 ⟨gH, rfl, hgH, bH, G⟩
  rw [← HH.out] at bH
  have F13 := F12.trans G
  have S13 := Lib.hid (S12.out.keep0 G)
  have BG13 := Lib.hid (BkAt.keep BG12.out G (by simp))
  have BH := Lib.hid bH
  clear S12 G BG12 F12 SV bH
  go_wp2_with fail
  refine (eqByteS_t _ _ _ _ _ _ _ _ _ (BH.out.sl HHL.out (by simp [maxLen])) S13.out rfl).mono ?_
  rintro e w14 ⟨rfl, G⟩
  have F14 := F13.trans G
  have BG14 := Lib.hid (BkAt.keep BG13.out G (by simp))
  clear S13 G BG13 F13 BH
  go_wp2_with fail
  refine (heldByteS_any _ _ _ _ 1 (BG14.out.sl (marks_length _ _) (by simp [maxLen])) (by decide)).mono ?_
  rintro e w15 ⟨rfl, rfl⟩
  go_wp2_with fail
  go_ret
  exact ⟨rfl, F14⟩
theorem exSum224_walk (a0 : Option Addr) (n ca : Nat) (x : Bs) (w : World) (hx : Sl w a0 n ca x) (hnx : n ≤ 140737488351232) :
    Calls Try.prog 5 #[.slice a0 n ca] w (RetB true w) := by
  by_cases h : n ≤ 1048576
  · exact exSum224_in a0 n ca x w hx h
  · have hd : decide (1048576 < n) = true := by simp; omega
    go_enter Try.func5, Try.ntmps5
    go_wp2_with fail
    go_ret
    exact ⟨rfl, Fr.refl _ _⟩

set_option maxHeartbeats 1600000 in
theorem exSum256_in (a0 : Option Addr) (n ca : Nat) (x : Bs) (w : World) (hx : Sl w a0 n ca x) (hnx : n ≤ 1048576) :
    Calls Try.prog 6 #[.slice a0 n ca] w (RetB true w) := by
  have hxl := Lib.hid hx.len
  have hd : decide (1048576 < n) = false := by simp; omega
  have F0 := Fr.refl [] w
  go_enter Try.func6, Try.ntmps6
  go_wp2_with fail
  clear hd
  refine (toByteS_any _ _ _ x _ (hx.keep0 F0) (by omega)).mono ?_
  rintro e w1 ⟨aT, cT, rfl, oT, G⟩
  have F1 := F0.trans G
  rw [hxl.out]
  have ST := oT.sl_at hxl.out
  clear oT G
  go_wp2_with fail
  refine (specSum256_any _ _ _ x _ ST (by omega)).mono ?_
  rintro e w2 ⟨aW, cW, rfl, oW, G⟩
  have F2 := F1.trans G
  obtain ⟨H, hH⟩ : ∃ H, H = xof 136 32 6 x 32 := ⟨_, rfl⟩
  have hHl : H.length = 32 := by rw [hH, xof_length]
  rw [← hH] at oW ⊢
  rw [hHl]
  have SW := Lib.hid (oW.sl_at hHl)
  have HH := Lib.hid hH
  have HHL := Lib.hid hHl
  clear oW G ST hH hHl F1
  go_wp2_with fail
  refine (toByteS_any _ _ _ x _ (hx.keep0 F2) (by omega)).mono ?_
  rintro e w3 ⟨aT, cT, rfl, oT, G⟩
  have F3 := F2.trans G
  rw [hxl.out]
  have S3 := Lib.hid (SW.out.keep0 G)
  have hW3 : Hid (∀ y, aW = some y → y.block < w2.heap.size) := fun y hy => SW.out.lt hy (by decide)
  clear SW
  have hsz : Hid (w.heap.size ≤ w2.heap.size) := F2.size
  have hsz23 : Hid (w2.heap.size ≤ w3.heap.size) := G.size
  have hsz3 : Hid (w.heap.size ≤ w3.heap.size) := F3.size
  have OX := Lib.hid oT
  have hX3 : Hid (∀ y, aT = some y → w2.heap.size ≤ y.block ∧ y.block < w3.heap.size) := fun y hy => by subst hy; exact ⟨oT.block.2.2.1, oT.block.2.2.2⟩
  clear oT G F2
  go_wp2_with fail
  refine (implSum256_any _ _ _ _ x (OX.out.sl_at hxl.out)).mono ?_
  rintro e w4 ⟨gG, rfl, hgG, bG, G⟩
  rw [← HH.out] at bG
  have F4 := F3.trans G
  have S4 := Lib.hid (S3.out.keep0 G)
  have OX4 := Lib.hid (OX.out.keep0 G)
  have BG := Lib.hid bG
  clear S3 OX G bG F3
  go_wp2_with fail
  refine (eqByteS_t _ _ _ _ _ _ _ _ _ (BG.out.sl HHL.out (by simp [maxLen])) S4.out rfl).mono ?_
  rintro e w5 ⟨rfl, G⟩
  have F5 := F4.trans G
  have S5 := Lib.hid (S4.out.keep0 G)
  have OX5 := Lib.hid (OX4.out.keep0 G)
  have BG5 := Lib.hid (BkAt.keep BG.out G (by simp))
  clear S4 OX4 G BG F4
  go_wp2_with fail
  refine (toByteS_any _ _ _ x _ (hx.keep0 F5) (by omega)).mono ?_
  rintro e w6 ⟨aU, cU, rfl, oU, G⟩
  have F6 := F5.trans G
  rw [hxl.out]
  have S6 := Lib.hid (S5.out.keep0 G)
  have OX6 := Lib.hid (OX5.out.keep0 G)
  have BG6 := Lib.hid (BkAt.keep BG5.out G (by simp))
  have SU := Lib.hid (oU.sl_at hxl.out)
  clear S5 OX5 G BG5 F5 oU
  go_wp2_with fail
  refine (eqByteS_t _ _ _ _ _ _ _ _ _ (OX6.out.sl_at hxl.out) SU.out rfl).mono ?_
  rintro e w7 ⟨rfl, G⟩
  have F7 := F6.trans G
  have S7 := Lib.hid (S6.out.keep0 G)
  have OX7 := Lib.hid (OX6.out.keep0 G)
  have BG7 := Lib.hid (BkAt.keep BG6.out G (by simp))
  clear S6 OX6 G BG6 F6 SU
  go_wp2_with fail
  refine (markOw _ _ n cT 1 aT x OX7.out hxl.out (by omega)).mono ?_
  rintro e w8 ⟨rfl, G⟩
  have hown : ∀ q ∈ (Value.slice aT n cT).ownBlock.toList, w2.heap.size ≤ q ∧ q < w3.heap.size := fun q hq => by
    cases aT with
    | none => simp [Value.ownBlock] at hq
    | some y =>
      have := hX3.out y rfl
      simp [Value.ownBlock] at hq
      omega
  have hw2 : w.heap.size ≤ w2.heap.size := hsz.out
  have F8 := F7.via G (fun q hq => by have := (hown q hq).1; omega)
  have S8 := Lib.hid (S7.out.keep G (fun y hy _ hq => by have := hW3.out y hy; have := (hown _ hq).1; omega))
  have BG8 := Lib.hid (BkAt.keep BG7.out G (fun hq => by have := (hown _ hq).2; omega))
  clear S7 OX7 G BG7 F7 hown
  have hk1 : decide (((1 + n : Nat) : Int) < 0) = false := by simp; omega
  go_wp2_with fail
  clear hk1
  refine (eqByteS_t _ _ _ _ _ _ _ _ _ (BG8.out.sl HHL.out (by simp [maxLen])) S8.out rfl).mono ?_
  rintro e w9 ⟨rfl, G⟩
  have F9 := F8.trans G
  have S9 := Lib.hid (S8.out.keep0 G)
  have BG9 := Lib.hid (BkAt.keep BG8.out G (by simp))
  clear S8 G BG8 F8
  go_wp2_with fail
  refine (markByteS_any _ gG 34 _ 32 32 1 BG9.out (by simp [HHL.out]) (by decide) (by decide) (by decide)).mono ?_
  rintro e w10 ⟨rfl, b10, G⟩
  have hgw : w.heap.size ≤ gG := by have := hsz3.out; omega
  have F10 := F9.via G (fun q hq => by simp at hq; omega)
  have S10 := Lib.hid (S9.out.keep G (fun y hy _ hq => by have := hW3.out y hy; have := hsz23.out; simp at hq; omega))
  have BG10 : Hid (BkAt w10 gG 34 (marks 1 32)) := by
    rw [splice_full _ _ (by rw [marks_length]; simp [HHL.out])] at b10
    exact b10
  clear S9 G BG9 F9 b10
  go_wp2_with fail
  refine (heldByteS_any _ _ _ _ 1 (BG10.out.sl (marks_length _ _) (by simp [maxLen])) (by decide)).mono ?_
  rintro e w11 ⟨rfl, rfl⟩
  go_wp2_with fail
  refine (toByteS_any _ _ _ x _ (hx.keep0 F10) (by omega)).mono ?_
  rintro e w12 ⟨aV, cV, rfl, oV, G⟩
  have F12 := F10.trans G
  rw [hxl.out]
  have S12 := Lib.hid (S10.out.keep0 G)
  have BG12 := Lib.hid (BkAt.keep BG10.out G (by simp))
  have SV := Lib.hid (oV.sl_at hxl.out)
  clear S10 G BG10 F10 oV
  go_wp2_with fail
  refine (implSum256_any _ _ _ _ x SV.out).mono ?_
  rintro e w13 ⟨gH, rfl, hgH, bH, G⟩
  rw [← HH.out] at bH
  have F13 := F12.trans G
  have S13 := Lib.hid (S12.out.keep0 G)
  have BG13 := Lib.hid (BkAt.keep BG12.out G (by simp))
  have BH := Lib.hid bH
  clear S12 G BG12 F12 SV bH
  go_wp2_with fail
  refine (eqByteS_t _ _ _ _ _ _ _ _ _ (BH.out.sl HHL.out (by simp [maxLen])) S13.out rfl).mono ?_
  rintro e w14 ⟨rfl, G⟩
  have F14 := F13.trans G
  have BG14 := Lib.hid (BkAt.keep BG13.out G (by simp))
  clear S13 G BG13 F13 BH
  go_wp2_with fail
  refine (heldByteS_any _ _ _ _ 1 (BG14.out.sl (marks_length _ _) (by simp [maxLen])) (by decide)).mono ?_
  rintro e w15 ⟨rfl, rfl⟩
  go_wp2_with fail
  go_ret
  exact ⟨rfl, F14⟩
theorem exSum256_walk (a0 : Option Addr) (n ca : Nat) (x : Bs) (w : World) (hx : Sl w a0 n ca x) (hnx : n ≤ 140737488351232) :
    Calls Try.prog 6 #[.slice a0 n ca] w (RetB true w) := by
  by_cases h : n ≤ 1048576
  · exact exSum256_in a0 n ca x w hx h
  · have hd : decide (1048576 < n) = true := by simp; omega
    go_enter Try.func6, Try.ntmps6
    go_wp2_with fail
    go_ret
    exact ⟨rfl, Fr.refl _ _⟩

set_option maxHeartbeats 1600000 in
theorem exSum384_in (a0 : Option Addr) (n ca : Nat) (x : Bs) (w : World) (hx : Sl w a0 n ca x) (hnx : n ≤ 1048576) :
    Calls Try.prog 7 #[.slice a0 n ca] w (RetB true w) := by
  have hxl := Lib.hid hx.len
  have hd : decide (1048576 < n) = false := by simp; omega
  have F0 := Fr.refl [] w
  go_enter Try.func7, Try.ntmps7
  go_wp2_with fail
  clear hd
  refine (toByteS_any _ _ _ x _ (hx.keep0 F0) (by omega)).mono ?_
  rintro e w1 ⟨aT, cT, rfl, oT, G⟩
  have F1 := F0.trans G
  rw [hxl.out]
  have ST := oT.sl_at hxl.out
  clear oT G
  go_wp2_with fail
  refine (specSum384_any _ _ _ x _ ST (by omega)).mono ?_
  rintro e w2 ⟨aW, cW, rfl, oW, G⟩
  have F2 := F1.trans G
  obtain ⟨H, hH⟩ : ∃ H, H = xof 104 48 6 x 48 := ⟨_, rfl⟩
  have hHl : H.length = 48 := by rw [hH, xof_length]
  rw [← hH] at oW ⊢
  rw [hHl]
  have SW := Lib.hid (oW.sl_at hHl)
  have HH := Lib.hid hH
  have HHL := Lib.hid hHl
  clear oW G ST hH hHl F1
  go_wp2_with fail
  refine (toByteS_any _ _ _ x _ (hx.keep0 F2) (by omega)).mono ?_
  rintro e w3 ⟨aT, cT, rfl, oT, G⟩
  have F3 := F2.trans G
  rw [hxl.out]
  have S3 := Lib.hid (SW.out.keep0 G)
  have hW3 : Hid (∀ y, aW = some y → y.block < w2.heap.size) := fun y hy => SW.out.lt hy (by decide)
  clear SW
  have hsz : Hid (w.heap.size ≤ w2.heap.size) := F2.size
  have hsz23 : Hid (w2.heap.size ≤ w3.heap.size) := G.size
  have hsz3 : Hid (w.heap.size ≤ w3.heap.size) := F3.size
  have OX := Lib.hid oT
  have hX3 : Hid (∀ y, aT = some y → w2.heap.size ≤ y.block ∧ y.block < w3.heap.size) := fun y hy => by subst hy; exact ⟨oT.block.2.2.1, oT.block.2.2.2⟩
  clear oT G F2
  go_wp2_with fail
  refine (implSum384_any _ _ _ _ x (OX.out.sl_at hxl.out)).mono ?_
  rintro e w4 ⟨gG, rfl, hgG, bG, G⟩
  rw [← HH.out] at bG
  have F4 := F3.trans G
  have S4 := Lib.hid (S3.out.keep0 G)
  have OX4 := Lib.hid (OX.out.keep0 G)
  have BG := Lib.hid bG
  clear S3 OX G bG F3
  go_wp2_with fail
  refine (eqByteS_t _ _ _ _ _ _ _ _ _ (BG.out.sl HHL.out (by simp [maxLen])) S4.out rfl).mono ?_
  rintro e w5 ⟨rfl, G⟩
  have F5 := F4.trans G
  have S5 := Lib.hid (S4.out.keep0 G)
  have OX5 := Lib.hid (OX4.out.keep0 G)
  have BG5 := Lib.hid (BkAt.keep BG.out G (by simp))
  clear S4 OX4 G BG F4
  go_wp2_with fail
  refine (toByteS_any _ _ _ x _ (hx.keep0 F5) (by omega)).mono ?_
  rintro e w6 ⟨aU, cU, rfl, oU, G⟩
  have F6 := F5.trans G
  rw [hxl.out]
  have S6 := Lib.hid (S5.out.keep0 G)
  have OX6 := Lib.hid (OX5.out.keep0 G)
  have BG6 := Lib.hid (BkAt.keep BG5.out G (by simp))
  have SU := Lib.hid (oU.sl_at hxl.out)
  clear S5 OX5 G BG5 F5 oU
  go_wp2_with fail
  refine (eqByteS_t _ _ _ _ _ _ _ _ _ (OX6.out.sl_at hxl.out) SU.out rfl).mono ?_
  rintro e w7 ⟨rfl, G⟩
  have F7 := F6.trans G
  have S7 := Lib.hid (S6.out.keep0 G)
  have OX7 := Lib.hid (OX6.out.keep0 G)
  have BG7 := Lib.hid (BkAt.keep BG6.out G (by simp))
  clear S6 OX6 G BG6 F6 SU
  go_wp2_with fail
  refine (markOw _ _ n cT 1 aT x OX7.out hxl.out (by omega)).mono ?_
  rintro e w8 ⟨rfl, G⟩
  have hown : ∀ q ∈ (Value.slice aT n cT).ownBlock.toList, w2.heap.size ≤ q ∧ q < w3.heap.size := fun q hq => by
    cases aT with
    | none => simp [Value.ownBlock] at hq
    | some y =>
      have := hX3.out y rfl
      simp [Value.ownBlock] at hq
      omega
  have hw2 : w.heap.size ≤ w2.heap.size := hsz.out
  have F8 := F7.via G (fun q hq => by have := (hown q hq).1; omega)
  have S8 := Lib.hid (S7.out.keep G (fun y hy _ hq => by have := hW3.out y hy; have := (hown _ hq).1; omega))
  have BG8 := Lib.hid (BkAt.keep BG7.out G (fun hq => by have := (hown _ hq).2; omega))
  clear S7 OX7 G BG7 F7 hown
  have hk1 : decide (((1 + n : Nat) : Int) < 0) = false := by simp; omega
  go_wp2_with fail
  clear hk1
  refine (eqByteS_t _ _ _ _ _ _ _ _ _ (BG8.out.sl HHL.out (by simp [maxLen])) S8.out rfl).mono ?_
  rintro e w9 ⟨rfl, G⟩
  have F9 := F8.trans G
  have S9 := Lib.hid (S8.out.keep0 G)
  have BG9 := Lib.hid (BkAt.keep BG8.out G (by simp))
  clear S8 G BG8 F8
  go_wp2_with fail
  refine (markByteS_any _ gG 36 _ 48 48 1 BG9.out (by simp [HHL.out]) (by decide) (by decide) (by decide)).mono ?_
  rintro e w10 ⟨rfl, b10, G⟩
  have hgw : w.heap.size ≤ gG := by have := hsz3.out; omega
  have F10 := F9.via G (fun q hq => by simp at hq; omega)
  have S10 := Lib.hid (S9.out.keep G (fun y hy _ hq => by have := hW3.out y hy; have := hsz23.out; simp at hq; omega))
  have BG10 : Hid (BkAt w10 gG 36 (marks 1 48)) := by
    rw [splice_full _ _ (by rw [marks_length]; simp [HHL.out])] at b10
    exact b10
  clear S9 G BG9 F9 b10
  go_wp2_with fail
  refine (heldByteS_any _ _ _ _ 1 (BG10.out.sl (marks_length _ _) (by simp [maxLen])) (by decide)).mono ?_
  rintro e w11 ⟨rfl, rfl⟩
  go_wp2_with fail
  refine (toByteS_any _ _ _ x _ (hx.keep0 F10) (by omega)).mono ?_
  rintro e w12 ⟨aV, cV, rfl, oV, G⟩
  have F12 := F10.trans G
  rw [hxl.out]
  have S12 := Lib.hid (S10.out.keep0 G)
  have BG12 := Lib.hid (BkAt.keep BG10.out G (by simp))
  have SV := Lib.hid (oV.sl_at hxl.out)
  clear S10 G BG10 F10 oV
  go_wp2_with fail
  refine (implSum384_any _ _ _ _ x SV.out).mono ?_
  rintro e w13 ⟨gH, rfl, hgH, bH, G⟩
  rw [← HH.out] at bH
  have F13 := F12.trans G
  have S13 := Lib.hid (S12.out.keep0 G)
  have BG13 := Lib.hid (BkAt.keep BG12.out G (by simp))
  have BH := Lib.hid bH
  clear S12 G BG12 F12 SV bH
  go_wp2_with fail
  refine (eqByteS_t _ _ _ _ _ _ _ _ _ (BH.out.sl HHL.out (by simp [maxLen])) S13.out rfl).mono ?_
  rintro e w14 ⟨rfl, G⟩
  have F14 := F13.trans G
  have BG14 := Lib.hid (BkAt.keep BG13.out G (by simp))
  clear S13 G BG13 F13 BH
  go_wp2_with fail
  refine (heldByteS_any _ _ _ _ 1 (BG14.out.sl (marks_length _ _) (by simp [maxLen])) (by decide)).mono ?_
  rintro e w15 ⟨rfl, rfl⟩
  go_wp2_with fail
  go_ret
  exact ⟨rfl, F14⟩
theorem exSum384_walk (a0 : Option Addr) (n ca : Nat) (x : Bs) (w : World) (hx : Sl w a0 n ca x) (hnx : n ≤ 140737488351232) :
    Calls Try.prog 7 #[.slice a0 n ca] w (RetB true w) := by
  by_cases h : n ≤ 1048576
  · exact exSum384_in a0 n ca x w hx h
  · have hd : decide (1048576 < n) = true := by simp; omega
    go_enter Try.func7, Try.ntmps7
    go_wp2_with fail
    go_ret
    exact ⟨rfl, Fr.refl _ _⟩

set_option maxHeartbeats 1600000 in
theorem exSum512_in (a0 : Option Addr) (n ca : Nat) (x : Bs) (w : World) (hx : Sl w a0 n ca x) (hnx : n ≤ 1048576) :
    Calls Try.prog 8 #[.slice a0 n ca] w (RetB true w) := by
  have hxl := Lib.hid hx.len
  have hd : decide (1048576 < n) = false := by simp; omega
  have F0 := Fr.refl [] w
  go_enter Try.func8, Try.ntmps8
  go_wp2_with fail
  clear hd
  refine (toByteS_any _ _ _ x _ (hx.keep0 F0) (by omega)).mono ?_
  rintro e w1 ⟨aT, cT, rfl, oT, G⟩
  have F1 := F0.trans G
  rw [hxl.out]
  have ST := oT.sl_at hxl.out
  clear oT G
  go_wp2_with fail
  refine (specSum512_any _ _ _ x _ ST (by omega)).mono ?_
  rintro e w2 ⟨aW, cW, rfl, oW, G⟩
  have F2 := F1.trans G
  obtain ⟨H, hH⟩ : ∃ H, H = xof 72 64 6 x 64 := ⟨_, rfl⟩
  have hHl : H.length = 64 := by rw [hH, xof_length]
  rw [← hH] at oW ⊢
  rw [hHl]
  have SW := Lib.hid (oW.sl_at hHl)
  have HH := Lib.hid hH
  have HHL := Lib.hid hHl
  clear oW G ST hH hHl F1
  go_wp2_with fail
  refine (toByteS_any _ _ _ x _ (hx.keep0 F2) (by omega)).mono ?_
  rintro e w3 ⟨aT, cT, rfl, oT, G⟩
  have F3 := F2.trans G
  rw [hxl.out]
  have S3 := Lib.hid (SW.out.keep0 G)
  have hW3 : Hid (∀ y, aW = some y → y.block < w2.heap.size) := fun y hy => SW.out.lt hy (by decide)
  clear SW
  have hsz : Hid (w.heap.size ≤ w2.heap.size) := F2.size
  have hsz23 : Hid (w2.heap.size ≤ w3.heap.size) := G.size
  have hsz3 : Hid (w.heap.size ≤ w3.heap.size) := F3.size
  have OX := Lib.hid oT
  have hX3 : Hid (∀ y, aT = some y → w2.heap.size ≤ y.block ∧ y.block < w3.heap.size) := fun y hy => by subst hy; exact ⟨oT.block.2.2.1, oT.block.2.2.2⟩
  clear oT G F2
  go_wp2_with fail
  refine (implSum512_any _ _ _ _ x (OX.out.sl_at hxl.out)).mono ?_
  rintro e w4 ⟨gG, rfl, hgG, bG, G⟩
  rw [← HH.out] at bG
  have F4 := F3.trans G
  have S4 := Lib.hid (S3.out.keep0 G)
  have OX4 := Lib.hid (OX.out.keep0 G)
  have BG := Lib.hid bG
  clear S3 OX G bG F3
  go_wp2_with fail
  refine (eqByteS_t _ _ _ _ _ _ _ _ _ (BG.out.sl HHL.out (by simp [maxLen])) S4.out rfl).mono ?_
  rintro e w5 ⟨rfl, G⟩
  have F5 := F4.trans G
  have S5 := Lib.hid (S4.out.keep0 G)
  have OX5 := Lib.hid (OX4.out.keep0 G)
  have BG5 := Lib.hid (BkAt.keep BG.out G (by simp))
  clear S4 OX4 G BG F4
  go_wp2_with fail
  refine (toByteS_any _ _ _ x _ (hx.keep0 F5) (by omega)).mono ?_
  rintro e w6 ⟨aU, cU, rfl, oU, G⟩
  have F6 := F5.trans G
  rw [hxl.out]
  have S6 := Lib.hid (S5.out.keep0 G)
  have OX6 := Lib.hid (OX5.out.keep0 G)
  have BG6 := Lib.hid (BkAt.keep BG5.out G (by simp))
  have SU := Lib.hid (oU.sl_at hxl.out)
  clear S5 OX5 G BG5 F5 oU
  go_wp2_with fail
  refine (eqByteS_t _ _ _ _ _ _ _ _ _ (OX6.out.sl_at hxl.out) SU.out rfl).mono ?_
  rintro e w7 ⟨rfl, G⟩
  have F7 := F6.trans G
  have S7 := Lib.hid (S6.out.keep0 G)
  have OX7 := Lib.hid (OX6.out.keep0 G)
  have BG7 := Lib.hid (BkAt.keep BG6.out G (by simp))
  clear S6 OX6 G BG6 F6 SU
  go_wp2_with fail
  refine (markOw _ _ n cT 1 aT x OX7.out hxl.out (by omega)).mono ?_
  rintro e w8 ⟨rfl, G⟩
  have hown : ∀ q ∈ (Value.slice aT n cT).ownBlock.toList, w2.heap.size ≤ q ∧ q < w3.heap.size := fun q hq => by
    cases aT with
    | none => simp [Value.ownBlock] at hq
    | some y =>
      have := hX3.out y rfl
      simp [Value.ownBlock] at hq
      omega
  have hw2 : w.heap.size ≤ w2.heap.size := hsz.out
  have F8 := F7.via G (fun q hq => by have := (hown q hq).1; omega)
  have S8 := Lib.hid (S7.out.keep G (fun y hy _ hq => by have := hW3.out y hy; have := (hown _ hq).1; omega))
  have BG8 := Lib.hid (BkAt.keep BG7.out G (fun hq => by have := (hown _ hq).2; omega))
  clear S7 OX7 G BG7 F7 hown
  have hk1 : decide (((1 + n : Nat) : Int) < 0) = false := by simp; omega
  go_wp2_with fail
  clear hk1
  refine (eqByteS_t _ _ _ _ _ _ _ _ _ (BG8.out.sl HHL.out (by simp [maxLen])) S8.out rfl).mono ?_
  rintro e w9 ⟨rfl, G⟩
  have F9 := F8.trans G
  have S9 := Lib.hid (S8.out.keep0 G)
  have BG9 := Lib.hid (BkAt.keep BG8.out G (by simp))
  clear S8 G BG8 F8
  go_wp2_with fail
  refine (markByteS_any _ gG 38 _ 64 64 1 BG9.out (by simp [HHL.out]) (by decide) (by decide) (by decide)).mono ?_
  rintro e w10 ⟨rfl, b10, G⟩
  have hgw : w.heap.size ≤ gG := by have := hsz3.out; omega
  have F10 := F9.via G (fun q hq => by simp at hq; omega)
  have S10 := Lib.hid (S9.out.keep G (fun y hy _ hq => by have := hW3.out y hy; have := hsz23.out; simp at hq; omega))
  have BG10 : Hid (BkAt w10 gG 38 (marks 1 64)) := by
    rw [splice_full _ _ (by rw [marks_length]; simp [HHL.out])] at b10
    exact b10
  clear S9 G BG9 F9 b10
  go_wp2_with fail
  refine (heldByteS_any _ _ _ _ 1 (BG10.out.sl (marks_length _ _) (by simp [maxLen])) (by decide)).mono ?_
  rintro e w11 ⟨rfl, rfl⟩
  go_wp2_with fail
  refine (toByteS_any _ _ _ x _ (hx.keep0 F10) (by omega)).mono ?_
  rintro e w12 ⟨aV, cV, rfl, oV, G⟩
  have F12 := F10.trans G
  rw [hxl.out]
  have S12 := Lib.hid (S10.out.keep0 G)
  have BG12 := Lib.hid (BkAt.keep BG10.out G (by simp))
  have SV := Lib.hid (oV.sl_at hxl.out)
  clear S10 G BG10 F10 oV
  go_wp2_with fail
  refine (implSum512_any _ _ _ _ x SV.out).mono ?_
  rintro e w13 ⟨gH, rfl, hgH, bH, G⟩
  rw [← HH.out] at bH
  have F13 := F12.trans G
  have S13 := Lib.hid (S12.out.keep0 G)
  have BG13 := Lib.hid (BkAt.keep BG12.out G (by simp))
  have BH := Lib.hid bH
  clear S12 G BG12 F12 SV bH
  go_wp2_with fail
  refine (eqByteS_t _ _ _ _ _ _ _ _ _ (BH.out.sl HHL.out (by simp [maxLen])) S13.out rfl).mono ?_
  rintro e w14 ⟨rfl, G⟩
  have F14 := F13.trans G
  have BG14 := Lib.hid (BkAt.keep BG13.out G (by simp))
  clear S13 G BG13 F13 BH
  go_wp2_with fail
  refine (heldByteS_any _ _ _ _ 1 (BG14.out.sl (marks_length _ _) (by simp [maxLen])) (by decide)).mono ?_
  rintro e w15 ⟨rfl, rfl⟩
  go_wp2_with fail
  go_ret
  exact ⟨rfl, F14⟩
theorem exSum512_walk (a0 : Option Addr) (n ca : Nat) (x : Bs) (w : World) (hx : Sl w a0 n ca x) (hnx : n ≤ 140737488351232) :
    Calls Try.prog 8 #[.slice a0 n ca] w (RetB true w) := by
  by_cases h : n ≤ 1048576
  · exact exSum512_in a0 n ca x w hx h
  · have hd : decide (1048576 < n) = true := by simp; omega
    go_enter Try.func8, Try.ntmps8
    go_wp2_with fail
    go_ret
    exact ⟨rfl, Fr.refl _ _⟩

end Go.Proofs.Ythlknckmhjnkjaa
