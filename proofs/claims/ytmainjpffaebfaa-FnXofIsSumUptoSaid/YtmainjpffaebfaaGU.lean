/- Contracts and lemmas, merged: CutP, Pcs. Their conditions stand in each. -/
import Derived.Test.YtmainjpffaebfaaGA
import Derived.Test.YtmainjpffaebfaaGB
import Derived.Test.YtmainjpffaebfaaGC
import Derived.Test.YtmainjpffaebfaaGG
import Derived.Test.YtmainjpffaebfaaGH
import Derived.Test.YtmainjpffaebfaaGN
import Derived.Test.YtmainjpffaebfaaGT
import Derived.Lib.MinMax
section
namespace Go.Sha
open Go.RowKit
def cutF (s : List Bs × Bs) (n : UInt8) : List Bs × Bs := (s.1 ++ [s.2.take n.toNat], s.2.drop n.toNat)
def cutS (data cuts : Bs) : List Bs × Bs := cuts.foldl cutF ([], data)
/-- the pieces, and what is left -/
def pcs (data cuts : Bs) : List Bs := (cutS data cuts).1 ++ [(cutS data cuts).2]
theorem cutS_snoc (data cuts : Bs) (n : UInt8) : cutS data (cuts ++ [n]) = cutF (cutS data cuts) n := by simp [cutS]
theorem cut_fold (cuts : Bs) : ∀ s : List Bs × Bs, (cuts.foldl cutF s).1.length = s.1.length + cuts.length ∧ (cuts.foldl cutF s).1.flatten ++ (cuts.foldl cutF s).2 = s.1.flatten ++ s.2 := by
  induction cuts with
  | nil => intro s; simp
  | cons n cuts ih =>
    intro s
    have h := ih (cutF s n)
    rw [List.foldl_cons]
    refine ⟨?_, ?_⟩
    · rw [h.1]; simp only [cutF, List.length_append, List.length_cons, List.length_nil]; omega
    · rw [h.2]; simp [cutF]
theorem cutS_len (data cuts : Bs) : (cutS data cuts).1.length = cuts.length := by
  have := (cut_fold cuts ([], data)).1
  simpa [cutS] using this
theorem pcs_len (data cuts : Bs) : (pcs data cuts).length = cuts.length + 1 := by simp [pcs, cutS_len]
theorem pcs_flat (data cuts : Bs) : (pcs data cuts).flatten = data := by
  have := (cut_fold cuts ([], data)).2
  simpa [pcs, cutS] using this
theorem rest_le (data cuts : Bs) : (cutS data cuts).2.length ≤ data.length := by
  have := congrArg List.length (cut_fold cuts ([], data)).2
  simp only [List.length_append, List.flatten_nil, List.nil_append] at this
  unfold cutS
  omega
theorem mem_flatten_le (ls : List Bs) (x : Bs) (h : x ∈ ls) : x.length ≤ ls.flatten.length := by
  induction ls with
  | nil => cases h
  | cons y ls ih =>
    rw [List.flatten_cons, List.length_append]
    rcases List.mem_cons.1 h with rfl | h
    · omega
    · have := ih h; omega
theorem pcs_le (data cuts x : Bs) (h : x ∈ pcs data cuts) : x.length ≤ data.length := by
  have := mem_flatten_le _ x h
  rwa [pcs_flat] at this
theorem getD_last {α : Type} (l : List α) (x : α) {n : Nat} {d : α} (h : l.length = n) : (l ++ [x]).getD n d = x := by
  subst h
  simp [List.getD_eq_getElem?_getD]
/-- writes of pieces -/
def wrs (ps : List Bs) : List Actn := ps.map fun p => ⟨0, 0, 0, p⟩
def wrR (ps : List Bs) : List Res := ps.map fun p => ⟨p.length, p, true, false⟩
theorem wrs_len (ps : List Bs) : (wrs ps).length = ps.length := by simp [wrs]
theorem wrR_len (ps : List Bs) : (wrR ps).length = ps.length := by simp [wrR]
theorem wrs_append (ps qs : List Bs) : wrs (ps ++ qs) = wrs ps ++ wrs qs := by simp [wrs]
end Go.Sha
end

section
namespace Go.Proofs.Ytmainjpffaebfaa
open Go.ChangeShapes Go.WideShapes Go.ChangeAt Go.RowKit Go.Sha
theorem infoAP : (Try.prog.info? 27).map (fun i => (i.zero, i.size, i.bytes)) = some (some (.agg #[.int .i64 0, .int .i64 0, .int .i64 0, .slice none 0 0]), 4, 48) := by kernel_rfl
theorem Sl_dropP {w : World} {b o n c : Nat} {l : Bs} (h : Sl w (some ⟨b, o, none⟩) n c l) (k : Nat) (hk : k ≤ n) (h0 : n ≠ 0) : Sl w (some ⟨b, o + k, none⟩) (n - k) (c - k) (l.drop k) := by
  have h1 := h.len
  have h2 := h.cap
  have h3 := h.max
  refine ⟨by simp; omega, by omega, by omega, ?_⟩
  rcases h.cel with h4 | ⟨b', o', e, hc⟩
  · exact absurd h4 h0
  · simp only [Option.some.injEq, Addr.mk.injEq] at e
    obtain ⟨rfl, rfl, _⟩ := e
    refine .inr ⟨b, o + k, rfl, fun i hi => ?_⟩
    rw [Nat.add_assoc, hc (k + i) (by omega)]
    simp [List.getD_eq_getElem?_getD]
theorem AsI_mono {AT : Nat} {w : World} {base base' : Nat} {a : Option Addr} {n c : Nat} {xs : List Actn} {vs : List (Option Addr × Nat × Nat)} (h : AsI AT w base a n c xs vs) (hb : base' ≤ base) : AsI AT w base' a n c xs vs := by
  refine ⟨h.len, h.vlen, ⟨h.row.1, ?_⟩, h.sl, h.ne⟩
  rcases h.row.2 with h2 | ⟨g, cap, cur, hv, hg, r⟩
  · exact .inl h2
  · exact .inr ⟨g, cap, cur, hv, Nat.le_trans hb hg, r⟩
def PcRel (w : World) (m : Nat) (data cuts : Bs) (out rest iv : Value) (wr : World) : Prop :=
  ∃ i a c vs ar nr cr, i ≤ m ∧ iv = .int .i64 ((i : Nat) : Int) ∧ out = .slice a i c ∧ rest = .slice ar nr cr ∧ AsI 27 wr w.heap.size a i c (wrs (cutS data (cuts.take i)).1) vs ∧ Sl wr ar nr cr (cutS data (cuts.take i)).2 ∧ Fr [] w wr ∧ (∀ z y, a = some z → ar = some y → nr ≠ 0 → z.block ≠ y.block) ∧ ((ar = none ∧ nr = 0 ∧ cr = 0) ∨ ∃ g o, ar = some ⟨g, o, none⟩)
theorem take_snoc_getD (l : Bs) (i : Nat) (h : i < l.length) : l.take (i + 1) = l.take i ++ [l.getD i 0] := by
  rw [List.take_succ_eq_append_getElem h, List.getD_eq_getElem?_getD, List.getElem?_eq_getElem h]
  rfl
set_option maxRecDepth 100000 in
set_option maxHeartbeats 1600000 in
theorem pieces_any (w : World) (a0 b0 : Option Addr) (n0 c0 m d0 : Nat) (data cuts : Bs) (hx : Sl w a0 n0 c0 data) (hy : Sl w b0 m d0 cuts) (hn : n0 ≤ 140737488351232) (hm : m ≤ 2932031007000) :
    Calls Try.prog 23 #[.slice a0 n0 c0, .slice b0 m d0] w fun e w' => ∃ a c vs, e = .returned (.slice a (m + 1) c) ∧ AsI 27 w' w.heap.size a (m + 1) c (wrs (pcs data cuts)) vs ∧ Fr [] w w' := by
  obtain ⟨i0, hi0, hz0, hz1, hz2⟩ := info_parts infoAP
  have HX := Lib.hid hx
  have HY := Lib.hid hy
  have hdc := hy.cap
  have hdm := hy.max
  unfold maxLen at hdm
  clear hx hy
  go_enter Try.func23, Try.ntmps23
  go_wp2_with fail
  refine (own_n a0 n0 c0 data w HX.out (by omega)).mono ?_
  rintro e w1 ⟨a1, c1, rfl, O1, f1⟩
  have J0 : Hid (PcRel w m data cuts (.slice none 0 0) (.slice a1 n0 c1) (.int .i64 0) w1) := by
    refine ⟨0, none, 0, [], a1, n0, c1, by omega, rfl, rfl, rfl, AsI.nil _ _ _, O1.sl_at HX.out.len, f1, (fun z y hz => by cases hz), ?_⟩
    rcases (Ow.row' O1 HX.out.len).2 with ⟨h3, _⟩ | ⟨g, cap, cur, hv, _⟩
    · simp only [Value.slice.injEq] at h3
      exact .inl h3
    · simp only [Value.slice.injEq] at hv
      exact .inr ⟨g, 0, hv.1⟩
  clear O1 f1
  go_wp2_with fail
  go_loopw [5, 6, 14] (fun out rest iv wr => PcRel w m data cuts out rest iv wr) (fun _ _ iv _ => m - (intOf iv).toNat)
  case atStart => exact J0.out
  case round =>
    clear J0
    obtain ⟨i, ao, co, vs, ar, nr, cr, hi, rfl, rfl, rfl, hR, hS, hf, hne, hcase⟩ := hrel
    have HR := Lib.hid hR
    have HS := Lib.hid hS
    have HNE := Lib.hid hne
    have hnr : nr ≤ n0 := by rw [← hS.len, ← HX.out.len]; exact rest_le _ _
    have hcr := hS.cap
    have hcm := hS.max
    unfold maxLen at hcm
    clear hR hS hne
    by_cases hlt : i < m
    · obtain ⟨b, ob, rfl, q0⟩ : ∃ b ob, b0 = some ⟨b, ob, none⟩ ∧ wr.cell? ⟨b, ob + i, none⟩ = some (.int .u8 (cuts.getD i 0).toNat) := by
        rcases (HY.out.keep0 hf).cel with h0 | ⟨b, o, h1, h2⟩
        · omega
        · exact ⟨b, o, h1, h2 i hlt⟩
      have e7 := take_snoc_getD cuts i (by rw [HY.out.len]; exact hlt)
      obtain ⟨x, hx⟩ : ∃ x, x = (cuts.getD i 0).toNat := ⟨_, rfl⟩
      have e8 : cutS data (cuts.take (i + 1)) = ((cutS data (cuts.take i)).1 ++ [(cutS data (cuts.take i)).2.take x], (cutS data (cuts.take i)).2.drop x) := by rw [e7, cutS_snoc, hx]; rfl
      have hx8 : x < 256 := by rw [hx]; exact UInt8.toNat_lt _
      rw [← hx] at q0
      obtain ⟨R, hRR⟩ : ∃ R, R = (cutS data (cuts.take i)).2 := ⟨_, rfl⟩
      obtain ⟨P, hPP⟩ : ∃ P, P = (cutS data (cuts.take i)).1 := ⟨_, rfl⟩
      rw [← hRR] at HS e8
      rw [← hPP] at HR e8
      have hRl := HS.out.len
      obtain ⟨k, hk⟩ : ∃ k, k = min x nr := ⟨_, rfl⟩
      have e9 : cutS data (cuts.take (i + 1)) = (P ++ [R.take k], R.drop k) := by
        rw [e8]
        by_cases h : x ≤ nr
        · rw [show k = x by omega]
        · rw [show k = nr by omega, List.take_of_length_le (by omega), List.take_of_length_le (by omega), List.drop_of_length_le (by omega), List.drop_of_length_le (by omega)]
      have mn : min (x : Int) (nr : Int) = (k : Int) := by omega
      have cu : IntKind.i64.wrap (x : Int) = (x : Int) := IntWalk.i64_in _ (by omega)
      have hkn : k ≤ nr := by omega
      have hknI : (k : Int) ≤ (nr : Int) := by omega
      have hkc : (k : Int) ≤ (cr : Int) := by omega
      have HE9 := Lib.hid e9
      have HKX := Lib.hid hk
      clear hRR hPP e7 e8 e9 hx hk hRl hx8
      rcases hcase with hcase | ⟨g, o, rfl⟩
      · obtain ⟨rfl, rfl, rfl⟩ := hcase
        obtain rfl : k = 0 := by omega
        have mn0 : min (x : Int) 0 = 0 := by omega
        have HK := Lib.hid (show (R.take 0).length = 0 by rw [List.length_take, HS.out.len]; omega)
        go_wp2_with fail
        refine (lwrite_any 0 _ 0 _ (R.take 0) _ (HS.out.take 0 (by omega)) (by omega)).mono ?_
        rintro e w3 ⟨a3, c3, rfl, O3, f3⟩
        have R3 := Lib.hid (HR.out.keep0 f3)
        have HO3 := Lib.hid (O3.sl_at (n := 0) HK.out)
        have HN3 : Hid (∀ y, a3 = some y → 0 ≠ 0 → ∀ z, ao = some z → y.block ≠ z.block) := (fun y hy _ z hz => by
          have h1 : wr.heap.size ≤ y.block := by subst hy; exact O3.block.2.2.1
          have h2 := (ownsRow_lt HR.out.row (show (Value.slice ao i co).ownBlock = some z.block by rw [hz]; rfl)).2
          omega)
        have F3 := hf.trans f3
        have HS3 := Lib.hid (HS.out.keep0 f3)
        have Y4 : Hid (Src Try.prog 4 30 (.slice (some ⟨w3.heap.size, 0, none⟩) 1 1) 1 (acCells (⟨0, 0, 0, (R.take 0)⟩, (a3, 0, c3))) (w3.alloc (.cells #[.int .i64 0, .int .i64 0, .int .i64 0, .slice a3 0 c3] 27))) := Src_act Try.underlying30 ⟨0, 0, 0, (R.take 0)⟩ (a3, 0, c3) 27
        obtain ⟨XS, hXS⟩ : ∃ XS, XS = ((wrs P).zip vs).flatMap acCells := ⟨_, rfl⟩
        obtain ⟨YS, hYS⟩ : ∃ YS, YS = acCells (⟨0, 0, 0, (R.take 0)⟩, (a3, 0, c3)) := ⟨_, rfl⟩
        have f4 : Fr [] w3 (w3.alloc (.cells #[.int .i64 0, .int .i64 0, .int .i64 0, .slice a3 0 c3] 27)) := (Fr.refl _ _).alloc _
        have O4 : Hid ((w3.alloc (.cells #[.int .i64 0, .int .i64 0, .int .i64 0, .slice a3 0 c3] 27)).ownsRow w.heap.size 27 4 (.slice ao i co) i XS) := by rw [hXS]; exact (R3.out.keep0 f4).row
        rw [← hYS] at Y4
        have X1 : Hid (i + 1 ≤ maxLen) := by show _ ≤ _; unfold maxLen; omega
        have X2 : Hid ((i + 1) * 48 ≤ 140737488355328) := by show _ ≤ _; omega
        have X3 : Hid (w.heap.size ≤ (w3.alloc (.cells #[.int .i64 0, .int .i64 0, .int .i64 0, .slice a3 0 c3] 27)).heap.size) := by show _ ≤ _; have := F3.size; simp; omega
        have HXY := Lib.hid (And.intro hXS hYS)
        clear hXS hYS O3 f3
        go_wp2_with (at_builtin; refine wpList_append_srcN _ rfl _ _ 30 30 rfl w.heap.size 27 i0 (.agg #[.int .i64 0, .int .i64 0, .int .i64 0, .slice none 0 0]) 4 48 Try.underlying30 hi0 hz0 hz1 hz2 rfl ao (i) co XS rfl O4.out _ 1 YS rfl Y4.out X1.out X2.out X3.out ?_)
        intro a5 c5 w5 ho5 hg5 ha5
        have f5 : Fr (blkOf ao) (w3.alloc (.cells #[.int .i64 0, .int .i64 0, .int .i64 0, .slice a3 0 c3] 27)) w5 := by
          rw [← ownBlock_blkOf ao (i) co]
          exact (Fr.refl _ _).grown hg5 (fun q hq => by rw [hq]; exact .inr (by simp))
        have R5 := Lib.hid (R3.out.push (x := ⟨0, 0, 0, (R.take 0)⟩) (v := (a3, 0, c3)) f4 HO3.out (show 0 ≤ 140737488351232 by omega) HN3.out (by rw [← HXY.out.1, ← HXY.out.2]; exact ho5) hg5 (by simpa using ha5))
        have F5 := Lib.hid ((F3.trans f4).via f5 (fun q hq => by
          obtain ⟨z, hz, e⟩ := mem_blkOf.1 hq
          rw [← e]
          exact (ownsRow_lt R3.out.row (show (Value.slice ao (i) co).ownBlock = some z.block by rw [hz]; rfl)).1))
        have HA5 : Hid (∀ z, a5 = some z → ao = some z ∨ w3.heap.size ≤ z.block) := (fun z hz => by
          have ha5' : a5 = ao ∨ a5 = some ⟨(w3.alloc (.cells #[.int .i64 0, .int .i64 0, .int .i64 0, .slice a3 0 c3] 27)).heap.size, 0, none⟩ := by simpa using ha5
          rcases ha5' with h | h
          · left; rw [← h]; exact hz
          · right; rw [h] at hz; have := Option.some.inj hz; rw [← this]; simp)
        have HS5 : Hid (Sl w5 (none : Option Addr) 0 0 R) := (HS3.out.keep0 f4).keep f5 (fun y hy hn hm => by
          obtain ⟨z, hz, e⟩ := mem_blkOf.1 hm
          exact HNE.out z y hz hy hn e)
        have hs3 : Hid (∀ y, (none : Option Addr) = some y → 0 ≠ 0 → y.block < w3.heap.size) := fun y hy hn => HS3.out.lt hy hn
        clear ho5 hg5 ha5 f5 f4 F3 O4 Y4 X1 X2 X3
        go_wp2_with fail
        refine ⟨⟨i + 1, a5, c5, vs ++ [(a3, 0, c3)], _, _, _, by omega, by simp, rfl, rfl, ?_, ?_, F5.out, ?_, .inl ⟨rfl, rfl, rfl⟩⟩, by simp [intOf]; omega⟩
        · rw [HE9.out, wrs_append]
          exact R5.out
        · rw [HE9.out]
          have h0 : R = [] := List.length_eq_zero_iff.1 HS5.out.len
          rw [h0]
          exact Sl.nil0 _
        · intro z y _ hy; cases hy
      · by_cases hck : cr = k
        · have HCK := Lib.hid hck
          clear hck
          have HK := Lib.hid (show (R.take k).length = k by rw [List.length_take, HS.out.len]; omega)
          go_wp2_with fail
          refine (lwrite_any 0 _ k _ (R.take k) _ (HS.out.take k (by omega)) (by omega)).mono ?_
          rintro e w3 ⟨a3, c3, rfl, O3, f3⟩
          have R3 := Lib.hid (HR.out.keep0 f3)
          have HO3 := Lib.hid (O3.sl_at (n := k) HK.out)
          have HN3 : Hid (∀ y, a3 = some y → k ≠ 0 → ∀ z, ao = some z → y.block ≠ z.block) := (fun y hy _ z hz => by
            have h1 : wr.heap.size ≤ y.block := by subst hy; exact O3.block.2.2.1
            have h2 := (ownsRow_lt HR.out.row (show (Value.slice ao i co).ownBlock = some z.block by rw [hz]; rfl)).2
            omega)
          have F3 := hf.trans f3
          have HS3 := Lib.hid (HS.out.keep0 f3)
          have Y4 : Hid (Src Try.prog 4 30 (.slice (some ⟨w3.heap.size, 0, none⟩) 1 1) 1 (acCells (⟨0, 0, 0, (R.take k)⟩, (a3, k, c3))) (w3.alloc (.cells #[.int .i64 0, .int .i64 0, .int .i64 0, .slice a3 k c3] 27))) := Src_act Try.underlying30 ⟨0, 0, 0, (R.take k)⟩ (a3, k, c3) 27
          obtain ⟨XS, hXS⟩ : ∃ XS, XS = ((wrs P).zip vs).flatMap acCells := ⟨_, rfl⟩
          obtain ⟨YS, hYS⟩ : ∃ YS, YS = acCells (⟨0, 0, 0, (R.take k)⟩, (a3, k, c3)) := ⟨_, rfl⟩
          have f4 : Fr [] w3 (w3.alloc (.cells #[.int .i64 0, .int .i64 0, .int .i64 0, .slice a3 k c3] 27)) := (Fr.refl _ _).alloc _
          have O4 : Hid ((w3.alloc (.cells #[.int .i64 0, .int .i64 0, .int .i64 0, .slice a3 k c3] 27)).ownsRow w.heap.size 27 4 (.slice ao i co) i XS) := by rw [hXS]; exact (R3.out.keep0 f4).row
          rw [← hYS] at Y4
          have X1 : Hid (i + 1 ≤ maxLen) := by show _ ≤ _; unfold maxLen; omega
          have X2 : Hid ((i + 1) * 48 ≤ 140737488355328) := by show _ ≤ _; omega
          have X3 : Hid (w.heap.size ≤ (w3.alloc (.cells #[.int .i64 0, .int .i64 0, .int .i64 0, .slice a3 k c3] 27)).heap.size) := by show _ ≤ _; have := F3.size; simp; omega
          have HXY := Lib.hid (And.intro hXS hYS)
          clear hXS hYS O3 f3
          go_wp2_with (at_builtin; refine wpList_append_srcN _ rfl _ _ 30 30 rfl w.heap.size 27 i0 (.agg #[.int .i64 0, .int .i64 0, .int .i64 0, .slice none 0 0]) 4 48 Try.underlying30 hi0 hz0 hz1 hz2 rfl ao (i) co XS rfl O4.out _ 1 YS rfl Y4.out X1.out X2.out X3.out ?_)
          intro a5 c5 w5 ho5 hg5 ha5
          have f5 : Fr (blkOf ao) (w3.alloc (.cells #[.int .i64 0, .int .i64 0, .int .i64 0, .slice a3 k c3] 27)) w5 := by
            rw [← ownBlock_blkOf ao (i) co]
            exact (Fr.refl _ _).grown hg5 (fun q hq => by rw [hq]; exact .inr (by simp))
          have R5 := Lib.hid (R3.out.push (x := ⟨0, 0, 0, (R.take k)⟩) (v := (a3, k, c3)) f4 HO3.out (show k ≤ 140737488351232 by omega) HN3.out (by rw [← HXY.out.1, ← HXY.out.2]; exact ho5) hg5 (by simpa using ha5))
          have F5 := Lib.hid ((F3.trans f4).via f5 (fun q hq => by
            obtain ⟨z, hz, e⟩ := mem_blkOf.1 hq
            rw [← e]
            exact (ownsRow_lt R3.out.row (show (Value.slice ao (i) co).ownBlock = some z.block by rw [hz]; rfl)).1))
          have HA5 : Hid (∀ z, a5 = some z → ao = some z ∨ w3.heap.size ≤ z.block) := (fun z hz => by
            have ha5' : a5 = ao ∨ a5 = some ⟨(w3.alloc (.cells #[.int .i64 0, .int .i64 0, .int .i64 0, .slice a3 k c3] 27)).heap.size, 0, none⟩ := by simpa using ha5
            rcases ha5' with h | h
            · left; rw [← h]; exact hz
            · right; rw [h] at hz; have := Option.some.inj hz; rw [← this]; simp)
          have HS5 : Hid (Sl w5 (some ⟨g, o, none⟩ : Option Addr) nr cr R) := (HS3.out.keep0 f4).keep f5 (fun y hy hn hm => by
            obtain ⟨z, hz, e⟩ := mem_blkOf.1 hm
            exact HNE.out z y hz hy hn e)
          have hs3 : Hid (∀ y, (some ⟨g, o, none⟩ : Option Addr) = some y → nr ≠ 0 → y.block < w3.heap.size) := fun y hy hn => HS3.out.lt hy hn
          clear ho5 hg5 ha5 f5 f4 F3 O4 Y4 X1 X2 X3
          have hck := HCK.out
          go_wp2_with fail
          refine ⟨⟨i + 1, a5, c5, vs ++ [(a3, k, c3)], _, _, _, by omega, by simp, rfl, rfl, ?_, ?_, F5.out, ?_, .inr ⟨_, _, rfl⟩⟩, by simp [intOf]; omega⟩
          · rw [HE9.out, wrs_append]
            exact R5.out
          · rw [HE9.out]
            have hnk : nr = k := by omega
            refine ⟨by rw [List.length_drop, HS5.out.len], by omega, by unfold maxLen; omega, .inl (by omega)⟩
          · intro z y _ hy hn; omega
        · have HK := Lib.hid (show (R.take k).length = k by rw [List.length_take, HS.out.len]; omega)
          go_wp2_with fail
          refine (lwrite_any 0 _ k _ (R.take k) _ (HS.out.take k (by omega)) (by omega)).mono ?_
          rintro e w3 ⟨a3, c3, rfl, O3, f3⟩
          have R3 := Lib.hid (HR.out.keep0 f3)
          have HO3 := Lib.hid (O3.sl_at (n := k) HK.out)
          have HN3 : Hid (∀ y, a3 = some y → k ≠ 0 → ∀ z, ao = some z → y.block ≠ z.block) := (fun y hy _ z hz => by
            have h1 : wr.heap.size ≤ y.block := by subst hy; exact O3.block.2.2.1
            have h2 := (ownsRow_lt HR.out.row (show (Value.slice ao i co).ownBlock = some z.block by rw [hz]; rfl)).2
            omega)
          have F3 := hf.trans f3
          have HS3 := Lib.hid (HS.out.keep0 f3)
          have Y4 : Hid (Src Try.prog 4 30 (.slice (some ⟨w3.heap.size, 0, none⟩) 1 1) 1 (acCells (⟨0, 0, 0, (R.take k)⟩, (a3, k, c3))) (w3.alloc (.cells #[.int .i64 0, .int .i64 0, .int .i64 0, .slice a3 k c3] 27))) := Src_act Try.underlying30 ⟨0, 0, 0, (R.take k)⟩ (a3, k, c3) 27
          obtain ⟨XS, hXS⟩ : ∃ XS, XS = ((wrs P).zip vs).flatMap acCells := ⟨_, rfl⟩
          obtain ⟨YS, hYS⟩ : ∃ YS, YS = acCells (⟨0, 0, 0, (R.take k)⟩, (a3, k, c3)) := ⟨_, rfl⟩
          have f4 : Fr [] w3 (w3.alloc (.cells #[.int .i64 0, .int .i64 0, .int .i64 0, .slice a3 k c3] 27)) := (Fr.refl _ _).alloc _
          have O4 : Hid ((w3.alloc (.cells #[.int .i64 0, .int .i64 0, .int .i64 0, .slice a3 k c3] 27)).ownsRow w.heap.size 27 4 (.slice ao i co) i XS) := by rw [hXS]; exact (R3.out.keep0 f4).row
          rw [← hYS] at Y4
          have X1 : Hid (i + 1 ≤ maxLen) := by show _ ≤ _; unfold maxLen; omega
          have X2 : Hid ((i + 1) * 48 ≤ 140737488355328) := by show _ ≤ _; omega
          have X3 : Hid (w.heap.size ≤ (w3.alloc (.cells #[.int .i64 0, .int .i64 0, .int .i64 0, .slice a3 k c3] 27)).heap.size) := by show _ ≤ _; have := F3.size; simp; omega
          have HXY := Lib.hid (And.intro hXS hYS)
          clear hXS hYS O3 f3
          go_wp2_with (at_builtin; refine wpList_append_srcN _ rfl _ _ 30 30 rfl w.heap.size 27 i0 (.agg #[.int .i64 0, .int .i64 0, .int .i64 0, .slice none 0 0]) 4 48 Try.underlying30 hi0 hz0 hz1 hz2 rfl ao (i) co XS rfl O4.out _ 1 YS rfl Y4.out X1.out X2.out X3.out ?_)
          intro a5 c5 w5 ho5 hg5 ha5
          have f5 : Fr (blkOf ao) (w3.alloc (.cells #[.int .i64 0, .int .i64 0, .int .i64 0, .slice a3 k c3] 27)) w5 := by
            rw [← ownBlock_blkOf ao (i) co]
            exact (Fr.refl _ _).grown hg5 (fun q hq => by rw [hq]; exact .inr (by simp))
          have R5 := Lib.hid (R3.out.push (x := ⟨0, 0, 0, (R.take k)⟩) (v := (a3, k, c3)) f4 HO3.out (show k ≤ 140737488351232 by omega) HN3.out (by rw [← HXY.out.1, ← HXY.out.2]; exact ho5) hg5 (by simpa using ha5))
          have F5 := Lib.hid ((F3.trans f4).via f5 (fun q hq => by
            obtain ⟨z, hz, e⟩ := mem_blkOf.1 hq
            rw [← e]
            exact (ownsRow_lt R3.out.row (show (Value.slice ao (i) co).ownBlock = some z.block by rw [hz]; rfl)).1))
          have HA5 : Hid (∀ z, a5 = some z → ao = some z ∨ w3.heap.size ≤ z.block) := (fun z hz => by
            have ha5' : a5 = ao ∨ a5 = some ⟨(w3.alloc (.cells #[.int .i64 0, .int .i64 0, .int .i64 0, .slice a3 k c3] 27)).heap.size, 0, none⟩ := by simpa using ha5
            rcases ha5' with h | h
            · left; rw [← h]; exact hz
            · right; rw [h] at hz; have := Option.some.inj hz; rw [← this]; simp)
          have HS5 : Hid (Sl w5 (some ⟨g, o, none⟩ : Option Addr) nr cr R) := (HS3.out.keep0 f4).keep f5 (fun y hy hn hm => by
            obtain ⟨z, hz, e⟩ := mem_blkOf.1 hm
            exact HNE.out z y hz hy hn e)
          have hs3 : Hid (∀ y, (some ⟨g, o, none⟩ : Option Addr) = some y → nr ≠ 0 → y.block < w3.heap.size) := fun y hy hn => HS3.out.lt hy hn
          clear ho5 hg5 ha5 f5 f4 F3 O4 Y4 X1 X2 X3
          go_wp2_with fail
          refine ⟨⟨i + 1, a5, c5, vs ++ [(a3, k, c3)], _, _, _, by omega, by simp, rfl, rfl, ?_, ?_, F5.out, ?_, .inr ⟨_, _, rfl⟩⟩, by simp [intOf]; omega⟩
          · rw [HE9.out, wrs_append]
            exact R5.out
          · rw [HE9.out]
            by_cases h0 : nr = 0
            · have hk0 : k = 0 := by omega
              exact ⟨by rw [List.length_drop, HS5.out.len], by omega, by unfold maxLen; omega, .inl (by omega)⟩
            · exact Sl_dropP HS5.out k (by omega) h0
          · intro z y hz hy hn
            simp only [Option.some.injEq] at hy
            subst hy
            have h0 : nr ≠ 0 := by omega
            rcases HA5.out z hz with h | h
            · exact HNE.out _ ⟨g, o, none⟩ h rfl h0
            · have := hs3.out ⟨g, o, none⟩ rfl h0
              simp only at this ⊢
              omega
    · obtain rfl : i = m := by omega
      rw [List.take_of_length_le (by rw [HY.out.len]; exact Nat.le_refl _)] at HR HS
      obtain ⟨R, hRR⟩ : ∃ R, R = (cutS data cuts).2 := ⟨_, rfl⟩
      obtain ⟨P, hPP⟩ : ∃ P, P = (cutS data cuts).1 := ⟨_, rfl⟩
      have e9 : pcs data cuts = P ++ [R] := by rw [hRR, hPP]; rfl
      rw [← hRR] at HS
      rw [← hPP] at HR
      have HE9 := Lib.hid e9
      have HK := Lib.hid (show R.length = nr from HS.out.len)
      clear hRR hPP e9
      go_wp2_with fail
      refine (lwrite_any 0 _ nr _ R _ HS.out (by omega)).mono ?_
      rintro e w3 ⟨a3, c3, rfl, O3, f3⟩
      have R3 := Lib.hid (HR.out.keep0 f3)
      have HO3 := Lib.hid (O3.sl_at (n := nr) HK.out)
      have HN3 : Hid (∀ y, a3 = some y → nr ≠ 0 → ∀ z, ao = some z → y.block ≠ z.block) := (fun y hy _ z hz => by
        have h1 : wr.heap.size ≤ y.block := by subst hy; exact O3.block.2.2.1
        have h2 := (ownsRow_lt HR.out.row (show (Value.slice ao i co).ownBlock = some z.block by rw [hz]; rfl)).2
        omega)
      have F3 := hf.trans f3
      have HS3 := Lib.hid (HS.out.keep0 f3)
      have Y4 : Hid (Src Try.prog 4 30 (.slice (some ⟨w3.heap.size, 0, none⟩) 1 1) 1 (acCells (⟨0, 0, 0, R⟩, (a3, nr, c3))) (w3.alloc (.cells #[.int .i64 0, .int .i64 0, .int .i64 0, .slice a3 nr c3] 27))) := Src_act Try.underlying30 ⟨0, 0, 0, R⟩ (a3, nr, c3) 27
      obtain ⟨XS, hXS⟩ : ∃ XS, XS = ((wrs P).zip vs).flatMap acCells := ⟨_, rfl⟩
      obtain ⟨YS, hYS⟩ : ∃ YS, YS = acCells (⟨0, 0, 0, R⟩, (a3, nr, c3)) := ⟨_, rfl⟩
      have f4 : Fr [] w3 (w3.alloc (.cells #[.int .i64 0, .int .i64 0, .int .i64 0, .slice a3 nr c3] 27)) := (Fr.refl _ _).alloc _
      have O4 : Hid ((w3.alloc (.cells #[.int .i64 0, .int .i64 0, .int .i64 0, .slice a3 nr c3] 27)).ownsRow w.heap.size 27 4 (.slice ao i co) i XS) := by rw [hXS]; exact (R3.out.keep0 f4).row
      rw [← hYS] at Y4
      have X1 : Hid (i + 1 ≤ maxLen) := by show _ ≤ _; unfold maxLen; omega
      have X2 : Hid ((i + 1) * 48 ≤ 140737488355328) := by show _ ≤ _; omega
      have X3 : Hid (w.heap.size ≤ (w3.alloc (.cells #[.int .i64 0, .int .i64 0, .int .i64 0, .slice a3 nr c3] 27)).heap.size) := by show _ ≤ _; have := F3.size; simp; omega
      have HXY := Lib.hid (And.intro hXS hYS)
      clear hXS hYS O3 f3
      go_wp2_with (at_builtin; refine wpList_append_srcN _ rfl _ _ 30 30 rfl w.heap.size 27 i0 (.agg #[.int .i64 0, .int .i64 0, .int .i64 0, .slice none 0 0]) 4 48 Try.underlying30 hi0 hz0 hz1 hz2 rfl ao (i) co XS rfl O4.out _ 1 YS rfl Y4.out X1.out X2.out X3.out ?_)
      intro a5 c5 w5 ho5 hg5 ha5
      have f5 : Fr (blkOf ao) (w3.alloc (.cells #[.int .i64 0, .int .i64 0, .int .i64 0, .slice a3 nr c3] 27)) w5 := by
        rw [← ownBlock_blkOf ao (i) co]
        exact (Fr.refl _ _).grown hg5 (fun q hq => by rw [hq]; exact .inr (by simp))
      have R5 := Lib.hid (R3.out.push (x := ⟨0, 0, 0, R⟩) (v := (a3, nr, c3)) f4 HO3.out (show nr ≤ 140737488351232 by omega) HN3.out (by rw [← HXY.out.1, ← HXY.out.2]; exact ho5) hg5 (by simpa using ha5))
      have F5 := Lib.hid ((F3.trans f4).via f5 (fun q hq => by
        obtain ⟨z, hz, e⟩ := mem_blkOf.1 hq
        rw [← e]
        exact (ownsRow_lt R3.out.row (show (Value.slice ao (i) co).ownBlock = some z.block by rw [hz]; rfl)).1))
      have HA5 : Hid (∀ z, a5 = some z → ao = some z ∨ w3.heap.size ≤ z.block) := (fun z hz => by
        have ha5' : a5 = ao ∨ a5 = some ⟨(w3.alloc (.cells #[.int .i64 0, .int .i64 0, .int .i64 0, .slice a3 nr c3] 27)).heap.size, 0, none⟩ := by simpa using ha5
        rcases ha5' with h | h
        · left; rw [← h]; exact hz
        · right; rw [h] at hz; have := Option.some.inj hz; rw [← this]; simp)
      clear ho5 hg5 ha5 f5 f4 F3 O4 Y4 X1 X2 X3
      go_wp2_with fail
      go_ret
      refine ⟨a5, c5, vs ++ [(a3, nr, c3)], rfl, ?_, F5.out⟩
      rw [HE9.out, wrs_append]
      exact R5.out
end Go.Proofs.Ytmainjpffaebfaa
end
