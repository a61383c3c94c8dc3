/- Contracts and lemmas, merged: RhP, RxH. Their conditions stand in each. -/
import Derived.Test.YtfgfhdkedmgfiaaGA
import Derived.Test.YtfgfhdkedmgfiaaGB
import Derived.Test.YtfgfhdkedmgfiaaGC
import Derived.Test.YtfgfhdkedmgfiaaGD
import Derived.Test.YtfgfhdkedmgfiaaGE
import Derived.Test.YtfgfhdkedmgfiaaGF
import Derived.Test.YtfgfhdkedmgfiaaGG
import Derived.Test.YtfgfhdkedmgfiaaGH
import Derived.Test.YtfgfhdkedmgfiaaGN
import Derived.Test.YtfgfhdkedmgfiaaGS
import Derived.Test.YtfgfhdkedmgfiaaGO
import Derived.Test.YtfgfhdkedmgfiaaGP
import Derived.Test.YtfgfhdkedmgfiaaGK
import Derived.Test.YtfgfhdkedmgfiaaGM
import Derived.Test.YtfgfhdkedmgfiaaGER
import Derived.Deep.RegionHeld3
import Derived.Deep.RegionLaw
section
namespace Go.Sha
open Go.RowKit
def bytesH (xs : List Actn) : Nat := (xs.map fun x => x.data.length).sum
theorem bytesH_take (xs : List Actn) (i : Nat) : bytesH (xs.take i) ≤ bytesH xs := by
  unfold bytesH
  induction xs generalizing i with
  | nil => simp
  | cons x xs ih =>
    cases i with
    | zero => simp
    | succ i => have := ih i; simp only [List.take_succ_cons, List.map_cons, List.sum_cons]; omega
theorem bytesH_mem {xs : List Actn} {x : Actn} (h : x ∈ xs) : x.data.length ≤ bytesH xs := by
  unfold bytesH
  induction xs with
  | nil => cases h
  | cons y xs ih =>
    simp only [List.map_cons, List.sum_cons]
    rcases List.mem_cons.1 h with rfl | h
    · omega
    · have := ih h; omega
def BsLe (n : Nat) (l : List Bs) : Prop := ∀ s ∈ l, s.length ≤ n
theorem BsLe.mono {n m : Nat} {l : List Bs} (h : BsLe n l) (hn : n ≤ m) : BsLe m l := fun s hs => Nat.le_trans (h s hs) hn
theorem BsLe.getD {n : Nat} {l : List Bs} (h : BsLe n l) (i : Nat) : (l.getD i []).length ≤ n := by
  by_cases hi : i < l.length
  · rw [List.getD_eq_getElem?_getD, List.getElem?_eq_getElem hi]
    exact h _ (List.getElem_mem hi)
  · rw [List.getD_eq_getElem?_getD, List.getElem?_eq_none (by omega)]
    simp
theorem BsLe.set {n : Nat} {l : List Bs} (h : BsLe n l) (i : Nat) (s : Bs) (hs : s.length ≤ n) : BsLe n (l.set i s) := fun t ht => by
  rcases List.mem_or_eq_of_mem_set ht with ht | rfl
  · exact h t ht
  · exact hs
theorem BsLe.snoc {n : Nat} {l : List Bs} (h : BsLe n l) (s : Bs) (hs : s.length ≤ n) : BsLe n (l ++ [s]) := fun t ht => by
  rcases List.mem_append.1 ht with ht | ht
  · exact h t ht
  · simp only [List.mem_cons, List.not_mem_nil, or_false] at ht
    subst ht
    exact hs
theorem stepH_le (r o : Nat) (all saved : List Bs) (x : Actn) (n : Nat) (h1 : BsLe n all) (h2 : BsLe n saved) : BsLe (n + x.data.length) (stepH r o all saved x).2.1 ∧ BsLe (n + x.data.length) (stepH r o all saved x).2.2 := by
  have k1 := h1.mono (Nat.le_add_right n x.data.length)
  have k2 := h2.mono (Nat.le_add_right n x.data.length)
  have g1 := h1.getD (ix x.at_ all.length)
  have g2 := k1.getD (ix x.at_ all.length)
  have g3 := k2.getD (ix x.pick saved.length)
  unfold stepH
  split
  · exact ⟨k1.set _ _ (by simp only [List.length_append]; omega), k2⟩
  · exact ⟨k1, k2⟩
  · exact ⟨k1.set _ _ (by simp), k2⟩
  · exact ⟨k1, k2⟩
  · exact ⟨k1, k2⟩
  · exact ⟨k1.snoc _ g2, k2⟩
  · exact ⟨k1.snoc _ (by simp), k2⟩
  · exact ⟨k1, k2.snoc _ g2⟩
  · exact ⟨k1, k2.snoc _ g2⟩
  · split
    · exact ⟨k1, k2⟩
    · exact ⟨k1.set _ _ g3, k2⟩
theorem foldH_le (r o : Nat) (xs : List Actn) : ∀ (s : List Res × List Bs × List Bs) (n : Nat), BsLe n s.2.1 → BsLe n s.2.2 → BsLe (n + bytesH xs) (xs.foldl (goH r o) s).2.1 ∧ BsLe (n + bytesH xs) (xs.foldl (goH r o) s).2.2 := by
  induction xs with
  | nil => intro s n h1 h2; exact ⟨h1, h2⟩
  | cons x xs ih =>
    intro s n h1 h2
    rw [List.foldl_cons]
    have hb : n + bytesH (x :: xs) = n + x.data.length + bytesH xs := by simp [bytesH]; omega
    rw [hb]
    exact ih (goH r o s x) (n + x.data.length) (stepH_le r o s.2.1 s.2.2 x n h1 h2).1 (stepH_le r o s.2.1 s.2.2 x n h1 h2).2
theorem runS_le (r o : Nat) (xs : List Actn) : BsLe (bytesH xs) (runS r o xs).2.1 ∧ BsLe (bytesH xs) (runS r o xs).2.2 := by
  have h := foldH_le r o xs ([], [[]], []) 0 (fun s hs => by simp only [List.mem_cons, List.not_mem_nil, or_false] at hs; subst hs; simp) (fun s hs => by cases hs)
  rw [Nat.zero_add] at h
  exact h
end Go.Sha
end

section
namespace Go.Sha
open Go.RowKit
/-- the cell of bytes in a row -/
def bsCells (q : Bs × V3) : List Value := [.slice q.2.1 q.2.2.1 q.2.2.2]
theorem Src_bs {P : Program} {tx e' : TypeId} {w : World} (hk : P.underlying tx = some (.slice e')) (q : Bs × V3) (E : Nat) : Src P 1 tx (.slice (some ⟨w.heap.size, 0, none⟩) 1 1) 1 (bsCells q) (w.alloc (.cells #[.slice q.2.1 q.2.2.1 q.2.2.2] E)) := by
  refine Src.ofSlice _ hk ⟨w.heap.size, 0, none⟩ 1 1 (bsCells q) rfl (fun j u hu => ?_) (by intro u hu; simp only [bsCells, List.mem_cons, List.not_mem_nil, or_false] at hu; subst hu; rfl)
  have h := Go.heap_alloc_new w (.cells #[.slice q.2.1 q.2.2.1 q.2.2.2] E)
  have e : (⟨w.heap.size, 0, none⟩ : Addr).add j = ⟨w.heap.size, j, none⟩ := by unfold Addr.add; split <;> simp_all
  rw [e, cell_of h]
  show (bsCells q).toArray[j]? = some u
  simpa using hu
end Go.Sha
namespace Go.Proofs.Ytfgfhdkedmgfiaa
open Go.ChangeShapes Go.WideShapes Go.ChangeAt Go.RowKit Go.Sha
theorem infoRR : (Try.prog.info? 31).map (fun i => (i.zero, i.size, i.bytes)) = some (some (.agg #[.int .i64 0, .slice none 0 0, .bool false, .bool false]), 4, 40) := by kernel_rfl
theorem infoSS : (Try.prog.info? 22).map (fun i => (i.zero, i.size, i.bytes)) = some (some (.slice none 0 0), 1, 24) := by kernel_rfl
theorem sizeB1 : (Try.prog.info? 4).map (·.size) = some 1 := by kernel_rfl
theorem sizeI1 : (Try.prog.info? 3).map (·.size) = some 1 := by kernel_rfl
theorem sizeU1 : (Try.prog.info? 22).map (·.size) = some 1 := by kernel_rfl
theorem sizeRR : (Try.prog.info? 31).map (·.size) = some 4 := by kernel_rfl
def RnhRel (w : World) (r o n : Nat) (xs : List Actn) (out sav all iv : Value) (wr : World) : Prop :=
  ∃ i ao co PO a1 c1 P1 a2 c2 P2, i ≤ n ∧ iv = .int .i64 ((i : Nat) : Int) ∧ out = .slice ao i co ∧ sav = .slice a2 P2.length c2 ∧ all = .slice a1 P1.length c1 ∧ RxI 5 22 31 1 (id : Bs → Bs) bsCells wr w.heap.size ao co PO a1 c1 P1 a2 c2 P2 ∧ PO.length = i ∧ PO.map (·.1) = (runS r o (xs.take i)).1 ∧ P1.map (·.1) = (runS r o (xs.take i)).2.1 ∧ P2.map (·.1) = (runS r o (xs.take i)).2.2 ∧ Fr [] w wr
def RunHH (n : Nat) (rs : List Res) (w : World) (e : Ending) (w' : World) : Prop := ∃ a c, e = .returned (.slice a n c) ∧ RsR w' a n c rs ∧ Fr [] w w'
set_option maxRecDepth 100000 in
set_option maxHeartbeats 16000000 in
theorem specRunHashes_any (w : World) (kind : Int) (a : Option Addr) (n c : Nat) (xs : List Actn) (h : ActsAt w a n c xs) (hn : n ≤ 1048576) (hb : bytesH xs ≤ 1048576) :
    Calls Try.prog 30 #[.int .i64 kind, .slice a n c] w (RunHH n (runH (rOf (k5 kind)) (oOf (k5 kind)) xs) w) := by
  obtain ⟨i0, hi0, hz0, hz1, hz2⟩ := info_parts infoRR
  obtain ⟨j0, hj0, hy0, hy1, hy2⟩ := info_parts infoSS
  have HHD := Lib.hid (hashed_any kind)
  have HBK := Lib.hid (hashBlock_any kind)
  obtain ⟨r, hr⟩ : ∃ r, r = rOf (k5 kind) := ⟨_, rfl⟩
  obtain ⟨o, ho⟩ : ∃ o, o = oOf (k5 kind) := ⟨_, rfl⟩
  rw [← hr, ← ho] at HHD
  rw [← hr] at HBK
  have hole := (rt_of _ (k5_lt kind)).ole
  rw [← ho] at hole
  obtain ⟨kk, hkk⟩ : ∃ kk, kk = k5 kind := ⟨_, rfl⟩
  have hkl : kk < 5 := by rw [hkk]; exact k5_lt kind
  have HKK : Hid (kind % 5 = (kk : Int)) := by rw [hkk]; exact k5_int kind
  have HOK : Hid (o = oOf kk) := by rw [hkk]; exact ho
  rw [← hr, ← ho]
  have hk5 : (kk : Int) < 5 := by omega
  have HA := Lib.hid h
  have hcap := h.cap
  have hmx := h.max
  unfold maxLen at hmx
  clear h hr ho hkk
  have G1 : Fr [] w ((w.alloc (.cells #[] 5)).alloc (.cells #[.slice (some ⟨w.heap.size, 0, none⟩) 0 0] 22)) := ((Fr.refl _ _).alloc _).alloc _
  have zz : (w.alloc (.cells #[] 5)).heap.size = w.heap.size + 1 := by simp
  have I1 : RxI 5 22 31 1 (id : Bs → Bs) bsCells ((w.alloc (.cells #[] 5)).alloc (.cells #[.slice (some ⟨w.heap.size, 0, none⟩) 0 0] 22)) w.heap.size none 0 [] (some ⟨w.heap.size + 1, 0, none⟩) 1 [([], (some ⟨w.heap.size, 0, none⟩, 0, 0))] none 0 [] := by
    refine ⟨World.ownsRow_nil _ _ _ _, ⟨rfl, .inr ⟨w.heap.size + 1, 1, #[.slice (some ⟨w.heap.size, 0, none⟩) 0 0], rfl, by omega, ?_, by simp, by simp [maxLen], by simp, rfl⟩⟩, World.ownsRow_nil _ _ _ _, (fun q hq => by cases hq), (fun q hq => ?_), (fun q hq => by cases hq), (fun x y hx hy => by cases hy)⟩
    · rw [← zz]
      exact Go.heap_alloc_new _ _
    · simp only [List.mem_cons, List.not_mem_nil, or_false] at hq
      subst hq
      exact ⟨⟨rfl, Nat.le_refl _, by simp [maxLen], .inl rfl⟩, fun x hx h0 => absurd rfl h0⟩
  have J0 : Hid (RnhRel w r o n xs (.slice none 0 0) (.slice none 0 0) (.slice (some ⟨w.heap.size + 1, 0, none⟩) 1 1) (.int .i64 0) ((w.alloc (.cells #[] 5)).alloc (.cells #[.slice (some ⟨w.heap.size, 0, none⟩) 0 0] 22))) := ⟨0, none, 0, [], _, _, _, none, 0, [], by omega, rfl, rfl, rfl, rfl, I1, rfl, rfl, rfl, rfl, G1⟩
  clear I1 G1 zz
  go_enter Try.func30, Try.ntmps30
  go_wp2_with fail
  generalize (w.alloc (.cells #[] 5)).alloc (.cells #[.slice (some ⟨w.heap.size, 0, none⟩) 0 0] 22) = w0 at J0 ⊢
  go_loopw [5, 6, 7, 16] (fun out sav all iv wr => RnhRel w r o n xs out sav all iv wr) (fun _ _ _ iv _ => n - (intOf iv).toNat)
  case atStart => exact J0.out
  case round =>
    clear J0
    obtain ⟨i, ao, co, PO, a1, c1, P1, a2, c2, P2, hi, rfl, rfl, rfl, rfl, hI, hPO, hrs, hal, hsv, hf⟩ := hrel
    by_cases hlt : i < n
    · obtain ⟨b, ob, rfl, hcel⟩ : ∃ b ob, a = some ⟨b, ob, none⟩ ∧ ∀ i, i < n → ∃ ad nd cd, w.cell? ⟨b, ob + 4 * i, none⟩ = some (.int .i64 (xs.getD i ⟨0, 0, 0, []⟩).k) ∧ w.cell? ⟨b, ob + 4 * i + 1, none⟩ = some (.int .i64 (xs.getD i ⟨0, 0, 0, []⟩).at_) ∧ w.cell? ⟨b, ob + 4 * i + 2, none⟩ = some (.int .i64 (xs.getD i ⟨0, 0, 0, []⟩).pick) ∧ w.cell? ⟨b, ob + 4 * i + 3, none⟩ = some (.slice ad nd cd) ∧ Sl w ad nd cd (xs.getD i ⟨0, 0, 0, []⟩).data ∧ nd ≤ 140737488351232 := by
        rcases HA.out.cel with h0 | h0
        · omega
        · exact h0
      obtain ⟨ad, nd, cd, p0, p1, p2, p3, hSW, hnd⟩ := hcel i hlt
      clear hcel
      replace p0 := hf.cell p0 (by simp)
      replace p1 := hf.cell p1 (by simp)
      replace p2 := hf.cell p2 (by simp)
      replace p3 := hf.cell p3 (by simp)
      have hS := hSW.keep0 hf
      rw [show ob + 4 * i = ob + i * 4 by omega] at p0 p1 p2 p3
      have hmem : xs.getD i ⟨0, 0, 0, []⟩ ∈ xs := by
        rw [List.getD_eq_getElem?_getD, List.getElem?_eq_getElem (by rw [HA.out.len]; exact hlt)]
        exact List.getElem_mem _
      have hnb := bytesH_mem hmem
      rw [hS.len] at hnb
      have e7 : xs.take (i + 1) = xs.take i ++ [xs.getD i ⟨0, 0, 0, []⟩] := by
        rw [List.take_succ_eq_append_getElem (by rw [HA.out.len]; exact hlt), List.getD_eq_getElem?_getD, List.getElem?_eq_getElem (by rw [HA.out.len]; exact hlt)]
        rfl
      have hle := runS_le r o (xs.take i)
      have hlb := bytesH_take xs i
      have hln := runS_len r o (xs.take i)
      rw [List.length_take, HA.out.len] at hln
      obtain ⟨x, hx⟩ : ∃ x, x = xs.getD i ⟨0, 0, 0, []⟩ := ⟨_, rfl⟩
      rw [← hx] at p0 p1 p2 hS hSW e7
      obtain ⟨k, att, pick, data⟩ := x
      simp only at p0 p1 p2 hS hSW
      have SW := Lib.hid hSW
      obtain ⟨rs, hrs0⟩ : ∃ rs, rs = (runS r o (xs.take i)).1 := ⟨_, rfl⟩
      obtain ⟨all, hal0⟩ : ∃ all, all = (runS r o (xs.take i)).2.1 := ⟨_, rfl⟩
      obtain ⟨saved, hsv0⟩ : ∃ saved, saved = (runS r o (xs.take i)).2.2 := ⟨_, rfl⟩
      have hsta : runS r o (xs.take i) = (rs, all, saved) := by rw [hrs0, hal0, hsv0]
      rw [← hrs0] at hrs
      rw [← hal0] at hal hle hln
      rw [← hsv0] at hsv hle hln
      have hl1 : P1.length = all.length := by rw [← hal, List.length_map]
      have hl2 : P2.length = saved.length := by rw [← hsv, List.length_map]
      have hp1 : 0 < P1.length := by omega
      have HST := Lib.hid (And.intro hsta (And.intro hrs (And.intro hal hsv)))
      have HE7 := Lib.hid e7
      have HLE := Lib.hid hle
      have HPO := Lib.hid hPO
      have HX := Lib.hid hx
      clear hsta hrs hal hsv e7 hle hrs0 hal0 hsv0 hx hmem hPO
      -- where the call goes
      obtain ⟨q1, hq1⟩ : ∃ q1, q1 = P1.length := ⟨_, rfl⟩
      obtain ⟨q2, hq2⟩ : ∃ q2, q2 = P2.length := ⟨_, rfl⟩
      have HQ1 : Hid (P1.length = q1) := hq1.symm
      have HQ2 : Hid (P2.length = q2) := hq2.symm
      obtain ⟨t, ht⟩ : ∃ t, t = ix att q1 := ⟨_, rfl⟩
      have htl : t < q1 := by rw [ht]; exact ix_lt _ _ (by omega)
      have HMA : Hid (att % (q1 : Int) = (t : Int)) := by rw [ht]; exact ix_int _ _ (by omega)
      have HT : Hid (ix att all.length = t) := by show _ = _; rw [ht, hq1, hl1]
      obtain ⟨m, hm⟩ : ∃ m, m = ix k 10 := ⟨_, rfl⟩
      have hml : m < 10 := by rw [hm]; exact ix_lt _ _ (by decide)
      have HMK : Hid (k % 10 = (m : Int)) := by rw [hm]; exact ix_int _ _ (by decide)
      have HM0 : Hid (ix k 10 = m) := hm.symm
      have bq1 : q1 ≤ 1048577 := by omega
      have bq2 : q2 ≤ 1048576 := by omega
      have hq10 : 0 < q1 := by omega
      -- the variables a and r
      have f2 : Fr [] wr ((wr.alloc (.cells #[.int .i64 k, .int .i64 att, .int .i64 pick, .slice ad nd cd] 26)).alloc (.cells #[.int .i64 0, .slice none 0 0, .bool false, .bool false] 31)) := ((Fr.refl _ _).alloc _).alloc _
      obtain ⟨ga, hga⟩ : ∃ ga, ga = wr.heap.size := ⟨_, rfl⟩
      obtain ⟨gr, hgr⟩ : ∃ gr, gr = wr.heap.size + 1 := ⟨_, rfl⟩
      have z1 : (wr.alloc (.cells #[.int .i64 k, .int .i64 att, .int .i64 pick, .slice ad nd cd] 26)).heap.size = gr := by rw [hgr]; simp
      have A1 : (wr.alloc (.cells #[.int .i64 k, .int .i64 att, .int .i64 pick, .slice ad nd cd] 26)).heap[ga]? = some (.cells #[.int .i64 k, .int .i64 att, .int .i64 pick, .slice ad nd cd] 26 (0, 0)) := by rw [hga]; exact Go.heap_alloc_new wr _
      have s0 : (wr.alloc (.cells #[.int .i64 k, .int .i64 att, .int .i64 pick, .slice ad nd cd] 26)).cell? ⟨ga, 0, none⟩ = some (.int .i64 k) := by rw [cell_of A1]; rfl
      have s1 : (wr.alloc (.cells #[.int .i64 k, .int .i64 att, .int .i64 pick, .slice ad nd cd] 26)).cell? ⟨ga, 1, none⟩ = some (.int .i64 att) := by rw [cell_of A1]; rfl
      have A2 : Hid (((wr.alloc (.cells #[.int .i64 k, .int .i64 att, .int .i64 pick, .slice ad nd cd] 26)).alloc (.cells #[.int .i64 0, .slice none 0 0, .bool false, .bool false] 31)).heap[ga]? = some (.cells #[.int .i64 k, .int .i64 att, .int .i64 pick, .slice ad nd cd] 26 (0, 0))) := ((Fr.refl [] _).alloc _).obj A1 (by simp)
      have B2 : Hid (((wr.alloc (.cells #[.int .i64 k, .int .i64 att, .int .i64 pick, .slice ad nd cd] 26)).alloc (.cells #[.int .i64 0, .slice none 0 0, .bool false, .bool false] 31)).heap[gr]? = some (.cells #[.int .i64 0, .slice none 0 0, .bool false, .bool false] 31 (0, 0))) := by
        show _ = _
        rw [← z1]
        exact Go.heap_alloc_new _ _
      have I2 := Lib.hid (hI.keep0 f2)
      have S2 := Lib.hid (hS.keep0 f2)
      have F2 := hf.trans f2
      have HGR : Hid (gr ∉ blkOf ao) := fun hm => by
        have := (row_tag hI.ro gr hm).2.1
        omega
      have hgar : ga ≠ gr := by omega
      have HGB : Hid (w.heap.size ≤ gr) := by show _ ≤ _; have := hf.size; omega
      have HDL := Lib.hid hS.len
      rw [← hq1, ← hq2]
      clear hI hS hSW hf f2 A1 hl1 hl2 ht hm hq1 hq2 hp1
      go_wp2_with fail
      try rw [← hga]
      refine (mod_nat att (q1 : Int) t _ (by omega) (by omega) HMA.out).mono ?_
      rintro e wz ⟨rfl, rfl⟩
      go_wp2_with fail
      try rw [z1]
      clear p0 p1 p2 p3 s0 s1
      generalize (wr.alloc (.cells #[.int .i64 k, .int .i64 att, .int .i64 pick, .slice ad nd cd] 26)).alloc (.cells #[.int .i64 0, .slice none 0 0, .bool false, .bool false] 31) = w2 at A2 B2 I2 S2 F2 ⊢
      refine (mod_nat k 10 m _ (by decide) (by decide) HMK.out).mono ?_
      rintro e wz ⟨rfl, hwz⟩
      obtain rfl := hwz.symm
      rw [← hgr, ← hga]
      have HGA := Lib.hid (And.intro hga hgr)
      clear z1 hga hgr
      obtain rfl | rfl | rfl | rfl | rfl | rfl | rfl | rfl | rfl | rfl : m = 0 ∨ m = 1 ∨ m = 2 ∨ m = 3 ∨ m = 4 ∨ m = 5 ∨ m = 6 ∨ m = 7 ∨ m = 8 ∨ m = 9 := by omega
      · have HM := HM0
        obtain ⟨g1, hg1, hc1, hm1, s0, hs0, hs1, hs2⟩ := row_cell (cel := bsCells) (sz := 1) (fun _ => rfl) I2.out.r1 rfl (show t < P1.length by rw [HQ1.out]; exact htl)
        subst hg1
        rw [HQ1.out] at hc1
        unfold maxLen at hm1
        obtain ⟨sw, av, nv, cv⟩ := s0
        have k0 : w2.cell? ⟨g1, t, none⟩ = some (.slice av nv cv) := by
          have e := (hs2 0 (by decide)).1
          rw [Nat.mul_one, Nat.add_zero] at e
          exact e
        have z0 : w2.frozen? ⟨g1, t, none⟩ = false := by
          have e := (hs2 0 (by decide)).2
          rw [Nat.mul_one, Nat.add_zero] at e
          exact e
        have SB : Hid (Sb 5 w2 (av, nv, cv) sw) := I2.out.s1 _ hs0
        have hgd : all.getD t [] = sw := by
          rw [← HST.out.2.2.1, List.getD_eq_getElem?_getD, List.getElem?_map, hs1]
          rfl
        have hsl := SB.out.sl.len
        have hbd := HLE.out.1.getD t
        rw [hgd] at hbd
        simp only at hsl hbd
        have HGD : Hid (all[t]?.getD [] = sw) := by show _ = _; rw [← List.getD_eq_getElem?_getD]; exact hgd
        have HS1 := Lib.hid hs1
        have htI : (t : Int) < (q1 : Int) := by omega
        have hg1r : g1 ≠ gr := fun e => by
          obtain ⟨_, _, c', f', e'⟩ := row_tag I2.out.r1 g1 (mem_blkOf.2 ⟨_, rfl, rfl⟩)
          rw [e] at e'
          have := tag_ne B2.out e'
          exact absurd this (by decide)
        have hg1a : g1 ≠ ga := fun e => by
          obtain ⟨_, _, c', f', e'⟩ := row_tag I2.out.r1 g1 (mem_blkOf.2 ⟨_, rfl, rfl⟩)
          rw [e] at e'
          have := tag_ne A2.out e'
          exact absurd this (by decide)
        clear hs0 hs1 hs2 hgd
        have v3 : w2.cell? ⟨ga, 3, none⟩ = some (.slice ad nd cd) := by rw [cell_of A2.out]; rfl
        obtain ⟨cur, hcur, _⟩ := I2.out.cur1
        have HCU := Lib.hid hcur
        have k0d : w2.drew.cell? ⟨g1, t, none⟩ = some (.slice av nv cv) := k0
        have v3d : w2.drew.cell? ⟨ga, 3, none⟩ = some (.slice ad nd cd) := v3
        clear hcur
        go_wp2_with fail
        clear z0
        go_region_law (go_simp; first
          | (go_at_call 48; refine (sjoined_any av ad nv nd cv cd sw data _ (SB.out.sl.keep0 (Fr.refl _ _).drew) (S2.out.keep0 (Fr.refl _ _).drew) (by omega)).mono ?_; rintro e w5 ⟨a5, c5, rfl, O5, f5⟩; have k05 : w5.cell? ⟨g1, t, none⟩ = some (.slice av nv cv) := f5.cell k0d (by simp); have z05 : w5.frozen? ⟨g1, t, none⟩ = false := (by have e := f5.obj (w := w2.drew) HCU.out (by simp); simp [World.frozen?, e]); have HO5 := Lib.hid O5; clear O5))
        all_goals
          have I5 := Lib.hid ((I2.out.keep0 (Fr.refl _ _).drew).keep0 f5)
          have F5 := F2.drew.trans f5
          have B5 := Lib.hid (f5.obj (w := w2.drew) B2.out (by simp))
          have A5 := Lib.hid (f5.obj (w := w2.drew) A2.out (by simp))
          have SB5 := Lib.hid (HO5.out.sb (n := nv + nd) (by rw [List.length_append, hsl, HDL.out]))
          have f6 : Fr [g1] w5 (w5.setCell ⟨g1, t, none⟩ (.slice a5 (nv + nd) c5)) := (Fr.refl _ _).setCell _ _ (.inr (by simp))
          have I6 : Hid (RxI 5 22 31 1 (id : Bs → Bs) bsCells (w5.setCell ⟨g1, t, none⟩ (.slice a5 (nv + nd) c5)) w.heap.size ao co PO (some ⟨g1, 0, none⟩) c1 (P1.set t (sw ++ data, (a5, nv + nd, c5))) a2 c2 P2) := I5.out.set1 (f6.mono (fun q _ hq => by simp only [List.mem_cons, List.not_mem_nil, or_false] at hq; rw [hq]; exact mem_blkOf.2 ⟨_, rfl, rfl⟩)) t (sw ++ data, (a5, nv + nd, c5)) SB5.out (by decide) (by decide) (by
            have e := ownsRow_set I5.out.r1 (t) (.slice a5 (nv + nd) c5)
            have e2 := flatMap_setN bsCells 1 (fun _ => rfl) P1 t 0 (by decide) _ (sw ++ data, (a5, nv + nd, c5)) (.slice a5 (nv + nd) c5) HS1.out rfl
            rw [Nat.mul_one, Nat.add_zero] at e2
            rw [e2] at e
            exact e)
          have tg6 := (row_tag I5.out.r1 g1 (mem_blkOf.2 ⟨_, rfl, rfl⟩)).1
          have F6 : Fr [] w (w5.setCell ⟨g1, t, none⟩ (.slice a5 (nv + nd) c5)) := F5.via f6 (fun q hq => by simp only [List.mem_cons, List.not_mem_nil, or_false] at hq; rw [hq]; exact tg6)
          have B6 := Lib.hid (f6.obj B5.out (by simp only [List.mem_cons, List.not_mem_nil, or_false]; exact fun e => hg1r e.symm))
          have A6 := Lib.hid (f6.obj A5.out (by simp only [List.mem_cons, List.not_mem_nil, or_false]; exact fun e => hg1a e.symm))
          clear k05 z05 k0d v3d k0 v3
          go_wp2_with fail
          generalize w5.setCell ⟨g1, t, none⟩ (.slice a5 (nv + nd) c5) = w6 at f6 I6 F6 B6 A6 ⊢
          have v6 : w6.drew.cell? ⟨ga, 3, none⟩ = some (.slice ad nd cd) := by show w6.cell? _ = _; rw [cell_of A6.out]; rfl
          go_region_held3 (fun w' => w'.cell? ⟨ga, 3, none⟩ = some (.slice ad nd cd))
            (first | (exact v6) | (exact v7) | (exact (fr4 w7 gr _ _ _ _).cell v7 (by simp only [List.mem_cons, List.not_mem_nil, or_false]; exact hgar)))
            (first
              | (go_at_call 49; refine (sown_n ad nd cd data _ (SW.out.keep0 F6.drew) (by omega)).mono ?_; rintro e w7 ⟨a7, c7, rfl, O7, f7⟩; have v7 : w7.cell? ⟨ga, 3, none⟩ = some (.slice ad nd cd) := f7.cell v6 (by simp); have HO7 := Lib.hid O7; have B7 := Lib.hid (f7.obj (w := w6.drew) B6.out (by simp)); have r0 : w7.cell? ⟨gr, 0, none⟩ = some (.int .i64 0) := (by rw [cell_of B7.out]; rfl); have r1 : w7.cell? ⟨gr, 1, none⟩ = some (.slice none 0 0) := (by rw [cell_of B7.out]; rfl); have r2 : w7.cell? ⟨gr, 2, none⟩ = some (.bool false) := (by rw [cell_of B7.out]; rfl); have r3 : w7.cell? ⟨gr, 3, none⟩ = some (.bool false) := (by rw [cell_of B7.out]; rfl); have y0 : w7.frozen? ⟨gr, 0, none⟩ = false := (by simp [World.frozen?, B7.out]); have y1 : w7.frozen? ⟨gr, 1, none⟩ = false := (by simp [World.frozen?, B7.out]); have y2 : w7.frozen? ⟨gr, 2, none⟩ = false := (by simp [World.frozen?, B7.out]); have y3 : w7.frozen? ⟨gr, 3, none⟩ = false := (by simp [World.frozen?, B7.out]); clear O7))
          have f8 := fr4 w7 gr (.int .i64 (nd : Int)) (.slice a7 nd c7) (.bool true) (.bool false)
          have B8 := Lib.hid (heap4 B7.out (.int .i64 (nd : Int)) (.slice a7 nd c7) (.bool true) (.bool false))
          have I7 := Lib.hid ((I6.out.keep0 (Fr.refl _ _).drew).keep0 f7)
          have I8 := Lib.hid (I7.out.keepR f8 B7.out HGR.out (by decide) (by decide))
          have F7 := F6.drew.trans f7
          have F8 := F7.via f8 (fun q hq => by simp only [List.mem_cons, List.not_mem_nil, or_false] at hq; rw [hq]; exact HGB.out)
          have SB8 := Lib.hid ((HO7.out.sb HDL.out).keep f8 (fun k hk cur fz e => by
            simp only [List.mem_cons, List.not_mem_nil, or_false] at hk
            rw [hk] at e
            exact absurd (tag_ne B7.out e) (by decide)))
          clear r0 r1 r2 r3 y0 y1 y2 y3 v6 v7
          generalize (((w7.setCell ⟨gr, 0, none⟩ (.int .i64 (nd : Int))).setCell ⟨gr, 1, none⟩ (.slice a7 nd c7)).setCell ⟨gr, 2, none⟩ (.bool true)).setCell ⟨gr, 3, none⟩ (.bool false) = w8 at f8 B8 I8 F8 SB8 ⊢
          have r0 : w8.cell? ⟨gr, 0, none⟩ = some (.int .i64 (nd : Int)) := by rw [cell_of B8.out]; rfl
          have r1 : w8.cell? ⟨gr, 1, none⟩ = some (.slice a7 nd c7) := by rw [cell_of B8.out]; rfl
          have r2 : w8.cell? ⟨gr, 2, none⟩ = some (.bool true) := by rw [cell_of B8.out]; rfl
          have r3 : w8.cell? ⟨gr, 3, none⟩ = some (.bool false) := by rw [cell_of B8.out]; rfl
          have Y9 : Hid (Src Try.prog 4 23 (.slice (some ⟨w8.heap.size, 0, none⟩) 1 1) 1 (rqCells (⟨(nd : Int), data, true, false⟩, (a7, nd, c7))) (w8.alloc (.cells #[.int .i64 (nd : Int), .slice a7 nd c7, .bool true, .bool false] 31))) := Src_rq Try.underlying23 ⟨(nd : Int), data, true, false⟩ (a7, nd, c7) 31
          obtain ⟨XS, hXS⟩ : ∃ XS, XS = PO.flatMap rqCells := ⟨_, rfl⟩
          obtain ⟨YS, hYS⟩ : ∃ YS, YS = rqCells (⟨(nd : Int), data, true, false⟩, (a7, nd, c7)) := ⟨_, rfl⟩
          have O9 : Hid ((w8.alloc (.cells #[.int .i64 (nd : Int), .slice a7 nd c7, .bool true, .bool false] 31)).ownsRow w.heap.size 31 4 (.slice ao i co) i XS) := by
            have e := (I8.out.keep0 ((Fr.refl _ _).alloc (.cells #[.int .i64 (nd : Int), .slice a7 nd c7, .bool true, .bool false] 31))).ro
            rw [HPO.out] at e
            rw [hXS]
            exact e
          rw [← hYS] at Y9
          have X1 : Hid (i + 1 ≤ maxLen) := by show _ ≤ _; unfold maxLen; omega
          have X2 : Hid ((i + 1) * 40 ≤ 140737488355328) := by show _ ≤ _; omega
          have X3 : Hid (w.heap.size ≤ (w8.alloc (.cells #[.int .i64 (nd : Int), .slice a7 nd c7, .bool true, .bool false] 31)).heap.size) := by show _ ≤ _; have := F8.size; simp; omega
          have HXY := Lib.hid (And.intro hXS hYS)
          clear hXS hYS
          go_wp2_with (at_builtin; refine wpList_append_srcN _ rfl _ _ 23 23 rfl w.heap.size 31 i0 (.agg #[.int .i64 0, .slice none 0 0, .bool false, .bool false]) 4 40 Try.underlying23 hi0 hz0 hz1 hz2 rfl ao i co XS rfl O9.out _ 1 YS rfl Y9.out X1.out X2.out X3.out ?_)
          intro a9 c9 w9 ho9 hg9 ha9
          have I9 : Hid (RxI 5 22 31 1 (id : Bs → Bs) bsCells w9 w.heap.size a9 c9 (PO ++ [(⟨(nd : Int), data, true, false⟩, (a7, nd, c7))]) (some ⟨g1, 0, none⟩) c1 (P1.set t ((sw ++ data, (a5, nv + nd, c5)) : Bs × V3)) a2 c2 P2) := I8.out.pushO ((Fr.refl _ _).alloc _) (⟨(nd : Int), data, true, false⟩, (a7, nd, c7)) SB8.out (by decide) (by decide) (by rw [HPO.out, ← HXY.out.1, ← HXY.out.2]; exact ho9) (by rw [HPO.out]; exact hg9)
          have F9 : Hid (Fr [] w w9) := (F8.alloc _).via (grownRw hg9) (fun q hq => (row_tag I8.out.ro q hq).1)
          clear ho9 hg9 ha9 O9 Y9 X1 X2 X3 r0 r1 r2 r3
          have e8 : goH r o (rs, all, saved) ⟨k, att, pick, data⟩ = (rs ++ [⟨(nd : Int), data, true, false⟩], ((P1.set t ((sw ++ data, (a5, nv + nd, c5)) : Bs × V3))).map (·.1), (P2).map (·.1)) := by
            unfold goH stepH
            rw [HM.out]
            simp [List.map_set, HST.out.2.2.1, HST.out.2.2.2, HT.out, HGD.out, HDL.out]
          have HE8 := Lib.hid e8
          clear e8
          go_wp2_with fail
          refine ⟨⟨i + 1, a9, c9, PO ++ [_], (some ⟨g1, 0, none⟩), c1, (P1.set t ((sw ++ data, (a5, nv + nd, c5)) : Bs × V3)), a2, c2, P2, by omega, by simp, rfl, by simp [HQ2.out], by simp [HQ1.out], I9.out, by simp [HPO.out], ?_, ?_, ?_, F9.out⟩, by simp [intOf]; omega⟩
          all_goals rw [HE7.out, runS_snoc, HST.out.1, HE8.out]
          simp [HST.out.2.1]
      · have HM := HM0
        obtain ⟨g1, hg1, hc1, hm1, s0, hs0, hs1, hs2⟩ := row_cell (cel := bsCells) (sz := 1) (fun _ => rfl) I2.out.r1 rfl (show t < P1.length by rw [HQ1.out]; exact htl)
        subst hg1
        rw [HQ1.out] at hc1
        unfold maxLen at hm1
        obtain ⟨sw, av, nv, cv⟩ := s0
        have k0 : w2.cell? ⟨g1, t, none⟩ = some (.slice av nv cv) := by
          have e := (hs2 0 (by decide)).1
          rw [Nat.mul_one, Nat.add_zero] at e
          exact e
        have z0 : w2.frozen? ⟨g1, t, none⟩ = false := by
          have e := (hs2 0 (by decide)).2
          rw [Nat.mul_one, Nat.add_zero] at e
          exact e
        have SB : Hid (Sb 5 w2 (av, nv, cv) sw) := I2.out.s1 _ hs0
        have hgd : all.getD t [] = sw := by
          rw [← HST.out.2.2.1, List.getD_eq_getElem?_getD, List.getElem?_map, hs1]
          rfl
        have hsl := SB.out.sl.len
        have hbd := HLE.out.1.getD t
        rw [hgd] at hbd
        simp only at hsl hbd
        have HGD : Hid (all[t]?.getD [] = sw) := by show _ = _; rw [← List.getD_eq_getElem?_getD]; exact hgd
        have HS1 := Lib.hid hs1
        have htI : (t : Int) < (q1 : Int) := by omega
        have hg1r : g1 ≠ gr := fun e => by
          obtain ⟨_, _, c', f', e'⟩ := row_tag I2.out.r1 g1 (mem_blkOf.2 ⟨_, rfl, rfl⟩)
          rw [e] at e'
          have := tag_ne B2.out e'
          exact absurd this (by decide)
        have hg1a : g1 ≠ ga := fun e => by
          obtain ⟨_, _, c', f', e'⟩ := row_tag I2.out.r1 g1 (mem_blkOf.2 ⟨_, rfl, rfl⟩)
          rw [e] at e'
          have := tag_ne A2.out e'
          exact absurd this (by decide)
        clear hs0 hs1 hs2 hgd
        have v3 : w2.cell? ⟨ga, 3, none⟩ = some (.slice ad nd cd) := by rw [cell_of A2.out]; rfl
        have k0e : w2.drew.cell? ⟨g1, t, none⟩ = some (.slice av nv cv) := k0
        have v3e : w2.drew.cell? ⟨ga, 3, none⟩ = some (.slice ad nd cd) := v3
        go_wp2_with fail
        clear k0 v3 z0
        go_region_held3 (fun w' => w'.cell? ⟨g1, t, none⟩ = some (.slice av nv cv) ∧ w'.cell? ⟨ga, 3, none⟩ = some (.slice ad nd cd))
          (first | (exact ⟨k0e, v3e⟩) | (exact ⟨k04, v34⟩) | (exact ⟨k05, v35⟩) | (exact ⟨((Fr.refl [gr] w5).setCell _ _ (.inr (by simp))).cell k05 (by simp only [List.mem_cons, List.not_mem_nil, or_false]; exact hg1r), ((Fr.refl [gr] w5).setCell _ _ (.inr (by simp))).cell v35 (by simp only [List.mem_cons, List.not_mem_nil, or_false]; exact hgar)⟩))
          (first
            | (go_at_call 20; refine (HHD.out av nv cv sw _ (SB.out.sl.keep0 (Fr.refl _ _).drew) (by omega)).mono ?_; rintro e w4 ⟨a4, c4, rfl, o4, f4⟩; rw [hsum_length]; have k04 := f4.cell k0e (by simp); have v34 := f4.cell v3e (by simp); have Z4 := Lib.hid (o4.sl_at (hsum_length r o sw)); clear o4)
            | (go_at_call 48; refine (sjoined_any ad a4 nd o cd c4 data (hsum r o sw) _ ((SW.out.keep0 F2.drew).keep0 f4) Z4.out (by omega)).mono ?_; rintro e w5 ⟨a5, c5, rfl, O5, f5⟩; have k05 := f5.cell k04 (by simp); have v35 := f5.cell v34 (by simp); have SB5 := Lib.hid (O5.sb (n := nd + o) (by rw [List.length_append, HDL.out, hsum_length])); have B5 := Lib.hid (f5.obj (f4.obj (w := w2.drew) B2.out (by simp)) (by simp)); have r1 : w5.cell? ⟨gr, 1, none⟩ = some (.slice none 0 0) := (by rw [cell_of B5.out]; rfl); have y1 : w5.frozen? ⟨gr, 1, none⟩ = false := (by simp [World.frozen?, B5.out]); clear O5))
        have B8 : Hid ((w5.setCell ⟨gr, 1, none⟩ (.slice a5 (nd + o) c5)).heap[gr]? = some (.cells #[.int .i64 0, .slice a5 (nd + o) c5, .bool false, .bool false] 31 (0, 0))) := Go.Sha.heap_setCell_same B5.out _
        have f8 : Fr [gr] w5 (w5.setCell ⟨gr, 1, none⟩ (.slice a5 (nd + o) c5)) := (Fr.refl _ _).setCell _ _ (.inr (by simp))
        have I5 := Lib.hid (((I2.out.keep0 (Fr.refl _ _).drew).keep0 f4).keep0 f5)
        have I8 := Lib.hid (I5.out.keepR f8 B5.out HGR.out (by decide) (by decide))
        have F5 := (F2.drew.trans f4).trans f5
        have F8 := F5.via f8 (fun q hq => by simp only [List.mem_cons, List.not_mem_nil, or_false] at hq; rw [hq]; exact HGB.out)
        have SB8 := Lib.hid (SB5.out.keep f8 (fun k hk cur fz e => by
          simp only [List.mem_cons, List.not_mem_nil, or_false] at hk
          rw [hk] at e
          exact absurd (tag_ne B5.out e) (by decide)))
        clear r1 y1 k0e v3e k04 v34 k05 v35
        generalize w5.setCell ⟨gr, 1, none⟩ (.slice a5 (nd + o) c5) = w8 at f8 B8 I8 F8 SB8 ⊢
        have B9 : Hid (w8.heap[gr]? = some (.cells #[.int .i64 0, .slice a5 (nd + o) c5, .bool false, .bool false] 31 (0, 0))) := B8.out
        have r0 : w8.cell? ⟨gr, 0, none⟩ = some (.int .i64 0) := by rw [cell_of B9.out]; rfl
        have r1 : w8.cell? ⟨gr, 1, none⟩ = some (.slice a5 (nd + o) c5) := by rw [cell_of B9.out]; rfl
        have r2 : w8.cell? ⟨gr, 2, none⟩ = some (.bool false) := by rw [cell_of B9.out]; rfl
        have r3 : w8.cell? ⟨gr, 3, none⟩ = some (.bool false) := by rw [cell_of B9.out]; rfl
        have Y9 : Hid (Src Try.prog 4 23 (.slice (some ⟨w8.heap.size, 0, none⟩) 1 1) 1 (rqCells (⟨0, data ++ hsum r o sw, false, false⟩, (a5, nd + o, c5))) (w8.alloc (.cells #[.int .i64 0, .slice a5 (nd + o) c5, .bool false, .bool false] 31))) := Src_rq Try.underlying23 ⟨0, data ++ hsum r o sw, false, false⟩ (a5, nd + o, c5) 31
        obtain ⟨XS, hXS⟩ : ∃ XS, XS = PO.flatMap rqCells := ⟨_, rfl⟩
        obtain ⟨YS, hYS⟩ : ∃ YS, YS = rqCells (⟨0, data ++ hsum r o sw, false, false⟩, (a5, nd + o, c5)) := ⟨_, rfl⟩
        have O9 : Hid ((w8.alloc (.cells #[.int .i64 0, .slice a5 (nd + o) c5, .bool false, .bool false] 31)).ownsRow w.heap.size 31 4 (.slice ao i co) i XS) := by
          have e := (I8.out.keep0 ((Fr.refl _ _).alloc (.cells #[.int .i64 0, .slice a5 (nd + o) c5, .bool false, .bool false] 31))).ro
          rw [HPO.out] at e
          rw [hXS]
          exact e
        rw [← hYS] at Y9
        have X1 : Hid (i + 1 ≤ maxLen) := by show _ ≤ _; unfold maxLen; omega
        have X2 : Hid ((i + 1) * 40 ≤ 140737488355328) := by show _ ≤ _; omega
        have X3 : Hid (w.heap.size ≤ (w8.alloc (.cells #[.int .i64 0, .slice a5 (nd + o) c5, .bool false, .bool false] 31)).heap.size) := by show _ ≤ _; have := F8.size; simp; omega
        have HXY := Lib.hid (And.intro hXS hYS)
        clear hXS hYS
        go_wp2_with (at_builtin; refine wpList_append_srcN _ rfl _ _ 23 23 rfl w.heap.size 31 i0 (.agg #[.int .i64 0, .slice none 0 0, .bool false, .bool false]) 4 40 Try.underlying23 hi0 hz0 hz1 hz2 rfl ao i co XS rfl O9.out _ 1 YS rfl Y9.out X1.out X2.out X3.out ?_)
        intro a9 c9 w9 ho9 hg9 ha9
        have I9 : Hid (RxI 5 22 31 1 (id : Bs → Bs) bsCells w9 w.heap.size a9 c9 (PO ++ [(⟨0, data ++ hsum r o sw, false, false⟩, (a5, nd + o, c5))]) (some ⟨g1, 0, none⟩) c1 P1 a2 c2 P2) := I8.out.pushO ((Fr.refl _ _).alloc _) (⟨0, data ++ hsum r o sw, false, false⟩, (a5, nd + o, c5)) SB8.out (by decide) (by decide) (by rw [HPO.out, ← HXY.out.1, ← HXY.out.2]; exact ho9) (by rw [HPO.out]; exact hg9)
        have F9 : Hid (Fr [] w w9) := (F8.alloc _).via (grownRw hg9) (fun q hq => (row_tag I8.out.ro q hq).1)
        clear ho9 hg9 ha9 O9 Y9 X1 X2 X3 r0 r1 r2 r3
        have e8 : goH r o (rs, all, saved) ⟨k, att, pick, data⟩ = (rs ++ [⟨0, data ++ hsum r o sw, false, false⟩], (P1).map (·.1), (P2).map (·.1)) := by
          unfold goH stepH
          rw [HM.out]
          simp [HST.out.2.2.1, HST.out.2.2.2, HT.out, HGD.out]
        have HE8 := Lib.hid e8
        clear e8
        go_wp2_with fail
        refine ⟨⟨i + 1, a9, c9, PO ++ [_], (some ⟨g1, 0, none⟩), c1, P1, a2, c2, P2, by omega, by simp, rfl, by simp [HQ2.out], by simp [HQ1.out], I9.out, by simp [HPO.out], ?_, ?_, ?_, F9.out⟩, by simp [intOf]; omega⟩
        all_goals rw [HE7.out, runS_snoc, HST.out.1, HE8.out]
        simp [HST.out.2.1]
      · have HM := HM0
        obtain ⟨g1, hg1, hc1, hm1, s0, hs0, hs1, hs2⟩ := row_cell (cel := bsCells) (sz := 1) (fun _ => rfl) I2.out.r1 rfl (show t < P1.length by rw [HQ1.out]; exact htl)
        subst hg1
        rw [HQ1.out] at hc1
        unfold maxLen at hm1
        obtain ⟨sw, av, nv, cv⟩ := s0
        have k0 : w2.cell? ⟨g1, t, none⟩ = some (.slice av nv cv) := by
          have e := (hs2 0 (by decide)).1
          rw [Nat.mul_one, Nat.add_zero] at e
          exact e
        have z0 : w2.frozen? ⟨g1, t, none⟩ = false := by
          have e := (hs2 0 (by decide)).2
          rw [Nat.mul_one, Nat.add_zero] at e
          exact e
        have SB : Hid (Sb 5 w2 (av, nv, cv) sw) := I2.out.s1 _ hs0
        have hgd : all.getD t [] = sw := by
          rw [← HST.out.2.2.1, List.getD_eq_getElem?_getD, List.getElem?_map, hs1]
          rfl
        have hsl := SB.out.sl.len
        have hbd := HLE.out.1.getD t
        rw [hgd] at hbd
        simp only at hsl hbd
        have HGD : Hid (all[t]?.getD [] = sw) := by show _ = _; rw [← List.getD_eq_getElem?_getD]; exact hgd
        have HS1 := Lib.hid hs1
        have htI : (t : Int) < (q1 : Int) := by omega
        have hg1r : g1 ≠ gr := fun e => by
          obtain ⟨_, _, c', f', e'⟩ := row_tag I2.out.r1 g1 (mem_blkOf.2 ⟨_, rfl, rfl⟩)
          rw [e] at e'
          have := tag_ne B2.out e'
          exact absurd this (by decide)
        have hg1a : g1 ≠ ga := fun e => by
          obtain ⟨_, _, c', f', e'⟩ := row_tag I2.out.r1 g1 (mem_blkOf.2 ⟨_, rfl, rfl⟩)
          rw [e] at e'
          have := tag_ne A2.out e'
          exact absurd this (by decide)
        clear hs0 hs1 hs2 hgd
        have e3 : Fr [] w2 (w2.alloc (.cells #[] 5)) := (Fr.refl _ _).alloc _
        have I3 := Lib.hid (I2.out.keep0 e3)
        have F3 := F2.trans e3
        have B3 := Lib.hid (e3.obj B2.out (by simp))
        have A3 := Lib.hid (e3.obj A2.out (by simp))
        have SB3 : Hid (Sb 5 (w2.alloc (.cells #[] 5)) (some ⟨w2.heap.size, 0, none⟩, 0, 0) []) := ⟨⟨rfl, Nat.le_refl _, by simp [maxLen], .inl rfl⟩, fun x hx h0 => absurd rfl h0⟩
        obtain ⟨cur, hcur, hcs⟩ := I3.out.cur1
        rw [HQ1.out] at hcs
        have HCU := Lib.hid hcur
        have hcz : t + 1 ≤ cur.size := by omega
        obtain ⟨new, hnew⟩ : ∃ new, (cur.toList.take (t * 1 + 0) ++ ([.slice (some ⟨w2.heap.size, 0, none⟩) 0 0] : List Value) ++ cur.toList.drop (t * 1 + 0 + ([.slice (some ⟨w2.heap.size, 0, none⟩) 0 0] : List Value).length)).toArray = new := ⟨_, rfl⟩
        have HNW := Lib.hid hnew
        clear hcur hcs hnew
        go_wp2_with (refine wpList_store_at rfl _ _ _ rfl g1 t rfl 22 (.slice (some ⟨w2.heap.size, 0, none⟩) 0 0) ([.slice (some ⟨w2.heap.size, 0, none⟩) 0 0] : List Value) cur new rfl rfl HCU.out hcz (by intro u hu; simp only [List.mem_cons, List.not_mem_nil, or_false] at hu; subst hu; rfl) sizeU1 (by have e := HNW.out; rw [Nat.mul_one, Nat.add_zero] at e; exact e) ?_; refine Hid.out ?_)
        show wpList _ _ _ _ _ _
        have I5 := Lib.hid (I3.out.store1 (fun _ => rfl) HCU.out t 0 ([.slice (some ⟨w2.heap.size, 0, none⟩) 0 0] : List Value) (by simp) _ ([], (some ⟨w2.heap.size, 0, none⟩, 0, 0)) HS1.out rfl SB3.out (by decide) (by decide) new HNW.out)
        have f5 : Fr [g1] (w2.alloc (.cells #[] 5)) ((w2.alloc (.cells #[] 5)).setRow g1 new) := (Fr.refl _ _).setRow _ _ (.inr (by simp))
        have tg5 := (row_tag I3.out.r1 g1 (mem_blkOf.2 ⟨_, rfl, rfl⟩)).1
        have F5 : Fr [] w ((w2.alloc (.cells #[] 5)).setRow g1 new) := F3.via f5 (fun q hq => by simp only [List.mem_cons, List.not_mem_nil, or_false] at hq; rw [hq]; exact tg5)
        have B5 := Lib.hid (f5.obj B3.out (by simp only [List.mem_cons, List.not_mem_nil, or_false]; exact fun e => hg1r e.symm))
        have A5 := Lib.hid (f5.obj A3.out (by simp only [List.mem_cons, List.not_mem_nil, or_false]; exact fun e => hg1a e.symm))
        generalize (w2.alloc (.cells #[] 5)).setRow g1 new = w5 at I5 f5 F5 B5 A5 ⊢
        clear k0 z0
        have r0 : w5.cell? ⟨gr, 0, none⟩ = some (.int .i64 0) := by rw [cell_of B5.out]; rfl
        have r1 : w5.cell? ⟨gr, 1, none⟩ = some (.slice none 0 0) := by rw [cell_of B5.out]; rfl
        have r2 : w5.cell? ⟨gr, 2, none⟩ = some (.bool false) := by rw [cell_of B5.out]; rfl
        have r3 : w5.cell? ⟨gr, 3, none⟩ = some (.bool false) := by rw [cell_of B5.out]; rfl
        have Y9 : Hid (Src Try.prog 4 23 (.slice (some ⟨w5.heap.size, 0, none⟩) 1 1) 1 (rqCells (⟨0, [], false, false⟩, (none, 0, 0))) (w5.alloc (.cells #[.int .i64 0, .slice none 0 0, .bool false, .bool false] 31))) := Src_rq Try.underlying23 ⟨0, [], false, false⟩ (none, 0, 0) 31
        obtain ⟨XS, hXS⟩ : ∃ XS, XS = PO.flatMap rqCells := ⟨_, rfl⟩
        obtain ⟨YS, hYS⟩ : ∃ YS, YS = rqCells (⟨0, [], false, false⟩, (none, 0, 0)) := ⟨_, rfl⟩
        have O9 : Hid ((w5.alloc (.cells #[.int .i64 0, .slice none 0 0, .bool false, .bool false] 31)).ownsRow w.heap.size 31 4 (.slice ao i co) i XS) := by
          have e := (I5.out.keep0 ((Fr.refl _ _).alloc (.cells #[.int .i64 0, .slice none 0 0, .bool false, .bool false] 31))).ro
          rw [HPO.out] at e
          rw [hXS]
          exact e
        rw [← hYS] at Y9
        have X1 : Hid (i + 1 ≤ maxLen) := by show _ ≤ _; unfold maxLen; omega
        have X2 : Hid ((i + 1) * 40 ≤ 140737488355328) := by show _ ≤ _; omega
        have X3 : Hid (w.heap.size ≤ (w5.alloc (.cells #[.int .i64 0, .slice none 0 0, .bool false, .bool false] 31)).heap.size) := by show _ ≤ _; have := F5.size; simp; omega
        have HXY := Lib.hid (And.intro hXS hYS)
        clear hXS hYS
        go_wp2_with (at_builtin; refine wpList_append_srcN _ rfl _ _ 23 23 rfl w.heap.size 31 i0 (.agg #[.int .i64 0, .slice none 0 0, .bool false, .bool false]) 4 40 Try.underlying23 hi0 hz0 hz1 hz2 rfl ao i co XS rfl O9.out _ 1 YS rfl Y9.out X1.out X2.out X3.out ?_)
        intro a9 c9 w9 ho9 hg9 ha9
        have I9 : Hid (RxI 5 22 31 1 (id : Bs → Bs) bsCells w9 w.heap.size a9 c9 (PO ++ [(⟨0, [], false, false⟩, (none, 0, 0))]) (some ⟨g1, 0, none⟩) c1 (P1.set t (([], (some ⟨w2.heap.size, 0, none⟩, 0, 0)) : Bs × V3)) a2 c2 P2) := I5.out.pushO ((Fr.refl _ _).alloc _) (⟨0, [], false, false⟩, (none, 0, 0)) (Sb.nil 5 _) (by decide) (by decide) (by rw [HPO.out, ← HXY.out.1, ← HXY.out.2]; exact ho9) (by rw [HPO.out]; exact hg9)
        have F9 : Hid (Fr [] w w9) := (F5.alloc _).via (grownRw hg9) (fun q hq => (row_tag I5.out.ro q hq).1)
        clear ho9 hg9 ha9 O9 Y9 X1 X2 X3 r0 r1 r2 r3
        have e8 : goH r o (rs, all, saved) ⟨k, att, pick, data⟩ = (rs ++ [⟨0, [], false, false⟩], ((P1.set t (([], (some ⟨w2.heap.size, 0, none⟩, 0, 0)) : Bs × V3))).map (·.1), (P2).map (·.1)) := by
          unfold goH stepH
          rw [HM.out]
          simp [List.map_set, HST.out.2.2.1, HST.out.2.2.2, HT.out]
        have HE8 := Lib.hid e8
        clear e8
        go_wp2_with fail
        refine ⟨⟨i + 1, a9, c9, PO ++ [_], (some ⟨g1, 0, none⟩), c1, (P1.set t (([], (some ⟨w2.heap.size, 0, none⟩, 0, 0)) : Bs × V3)), a2, c2, P2, by omega, by simp, rfl, by simp [HQ2.out], by simp [HQ1.out], I9.out, by simp [HPO.out], ?_, ?_, ?_, F9.out⟩, by simp [intOf]; omega⟩
        all_goals rw [HE7.out, runS_snoc, HST.out.1, HE8.out]
        simp [HST.out.2.1]
      · have HM := HM0
        go_wp2_with fail
        refine (sizes_sz w2).mono ?_
        rintro e w3 ⟨gz, rfl, _, hz, f3⟩
        have qz := hz.cell kk hkl
        rw [← HOK.out] at qz
        clear hz
        have I3 := Lib.hid (I2.out.keep0 f3)
        have B3 := Lib.hid (f3.obj B2.out (by simp))
        have F3 := F2.trans f3
        go_wp2_with fail
        refine (mod_nat kind 5 kk _ (by decide) (by decide) HKK.out).mono ?_
        rintro e wz ⟨rfl, hwz⟩
        obtain rfl := hwz.symm
        go_wp2_with (refine wpList_store_at rfl _ _ _ rfl gr 0 rfl 31 (.int .i64 (o : Int)) [.int .i64 (o : Int)] #[.int .i64 0, .slice none 0 0, .bool false, .bool false] #[.int .i64 (o : Int), .slice none 0 0, .bool false, .bool false] rfl rfl B3.out (by simp) (by intro u hu; simp only [List.mem_cons, List.not_mem_nil, or_false] at hu; subst hu; rfl) sizeI1 rfl ?_; refine Hid.out ?_)
        show wpList _ _ _ _ _ _
        have B7 := Lib.hid (setRow_heap _ _ _ (#[.int .i64 (o : Int), .slice none 0 0, .bool false, .bool false] : Array Value) _ _ B3.out)
        have f7 : Fr [gr] w3 (w3.setRow gr #[.int .i64 (o : Int), .slice none 0 0, .bool false, .bool false]) := (Fr.refl _ _).setRow _ _ (.inr (by simp))
        have I7 := Lib.hid (I3.out.keepR f7 B3.out HGR.out (by decide) (by decide))
        have F7 : Fr [] w (w3.setRow gr #[.int .i64 (o : Int), .slice none 0 0, .bool false, .bool false]) := F3.via f7 (fun q hq => by simp only [List.mem_cons, List.not_mem_nil, or_false] at hq; rw [hq]; exact HGB.out)
        generalize w3.setRow gr #[.int .i64 (o : Int), .slice none 0 0, .bool false, .bool false] = w7 at B7 f7 I7 F7 ⊢
        have r0 : w7.cell? ⟨gr, 0, none⟩ = some (.int .i64 (o : Int)) := by rw [cell_of B7.out]; rfl
        have r1 : w7.cell? ⟨gr, 1, none⟩ = some (.slice none 0 0) := by rw [cell_of B7.out]; rfl
        have r2 : w7.cell? ⟨gr, 2, none⟩ = some (.bool false) := by rw [cell_of B7.out]; rfl
        have r3 : w7.cell? ⟨gr, 3, none⟩ = some (.bool false) := by rw [cell_of B7.out]; rfl
        have Y9 : Hid (Src Try.prog 4 23 (.slice (some ⟨w7.heap.size, 0, none⟩) 1 1) 1 (rqCells (⟨(o : Int), [], false, false⟩, (none, 0, 0))) (w7.alloc (.cells #[.int .i64 (o : Int), .slice none 0 0, .bool false, .bool false] 31))) := Src_rq Try.underlying23 ⟨(o : Int), [], false, false⟩ (none, 0, 0) 31
        obtain ⟨XS, hXS⟩ : ∃ XS, XS = PO.flatMap rqCells := ⟨_, rfl⟩
        obtain ⟨YS, hYS⟩ : ∃ YS, YS = rqCells (⟨(o : Int), [], false, false⟩, (none, 0, 0)) := ⟨_, rfl⟩
        have O9 : Hid ((w7.alloc (.cells #[.int .i64 (o : Int), .slice none 0 0, .bool false, .bool false] 31)).ownsRow w.heap.size 31 4 (.slice ao i co) i XS) := by
          have e := (I7.out.keep0 ((Fr.refl _ _).alloc (.cells #[.int .i64 (o : Int), .slice none 0 0, .bool false, .bool false] 31))).ro
          rw [HPO.out] at e
          rw [hXS]
          exact e
        rw [← hYS] at Y9
        have X1 : Hid (i + 1 ≤ maxLen) := by show _ ≤ _; unfold maxLen; omega
        have X2 : Hid ((i + 1) * 40 ≤ 140737488355328) := by show _ ≤ _; omega
        have X3 : Hid (w.heap.size ≤ (w7.alloc (.cells #[.int .i64 (o : Int), .slice none 0 0, .bool false, .bool false] 31)).heap.size) := by show _ ≤ _; have := F7.size; simp; omega
        have HXY := Lib.hid (And.intro hXS hYS)
        clear hXS hYS
        go_wp2_with (at_builtin; refine wpList_append_srcN _ rfl _ _ 23 23 rfl w.heap.size 31 i0 (.agg #[.int .i64 0, .slice none 0 0, .bool false, .bool false]) 4 40 Try.underlying23 hi0 hz0 hz1 hz2 rfl ao i co XS rfl O9.out _ 1 YS rfl Y9.out X1.out X2.out X3.out ?_)
        intro a9 c9 w9 ho9 hg9 ha9
        have I9 : Hid (RxI 5 22 31 1 (id : Bs → Bs) bsCells w9 w.heap.size a9 c9 (PO ++ [(⟨(o : Int), [], false, false⟩, (none, 0, 0))]) a1 c1 P1 a2 c2 P2) := I7.out.pushO ((Fr.refl _ _).alloc _) (⟨(o : Int), [], false, false⟩, (none, 0, 0)) (Sb.nil 5 _) (by decide) (by decide) (by rw [HPO.out, ← HXY.out.1, ← HXY.out.2]; exact ho9) (by rw [HPO.out]; exact hg9)
        have F9 : Hid (Fr [] w w9) := (F7.alloc _).via (grownRw hg9) (fun q hq => (row_tag I7.out.ro q hq).1)
        clear ho9 hg9 ha9 O9 Y9 X1 X2 X3 r0 r1 r2 r3
        have e8 : goH r o (rs, all, saved) ⟨k, att, pick, data⟩ = (rs ++ [⟨(o : Int), [], false, false⟩], (P1).map (·.1), (P2).map (·.1)) := by
          unfold goH stepH
          rw [HM.out]
          simp [HST.out.2.2.1, HST.out.2.2.2]
        have HE8 := Lib.hid e8
        clear e8
        go_wp2_with fail
        refine ⟨⟨i + 1, a9, c9, PO ++ [_], a1, c1, P1, a2, c2, P2, by omega, by simp, rfl, by simp [HQ2.out], by simp [HQ1.out], I9.out, by simp [HPO.out], ?_, ?_, ?_, F9.out⟩, by simp [intOf]; omega⟩
        all_goals rw [HE7.out, runS_snoc, HST.out.1, HE8.out]
        simp [HST.out.2.1]
      · have HM := HM0
        go_wp2_with fail
        refine (HBK.out w2).mono ?_
        rintro e w3 ⟨rfl, f3⟩
        have I3 := Lib.hid (I2.out.keep0 f3)
        have B3 := Lib.hid (f3.obj B2.out (by simp))
        have F3 := F2.trans f3
        go_wp2_with (refine wpList_store_at rfl _ _ _ rfl gr 0 rfl 31 (.int .i64 (r : Int)) [.int .i64 (r : Int)] #[.int .i64 0, .slice none 0 0, .bool false, .bool false] #[.int .i64 (r : Int), .slice none 0 0, .bool false, .bool false] rfl rfl B3.out (by simp) (by intro u hu; simp only [List.mem_cons, List.not_mem_nil, or_false] at hu; subst hu; rfl) sizeI1 rfl ?_; refine Hid.out ?_)
        show wpList _ _ _ _ _ _
        have B7 := Lib.hid (setRow_heap _ _ _ (#[.int .i64 (r : Int), .slice none 0 0, .bool false, .bool false] : Array Value) _ _ B3.out)
        have f7 : Fr [gr] w3 (w3.setRow gr #[.int .i64 (r : Int), .slice none 0 0, .bool false, .bool false]) := (Fr.refl _ _).setRow _ _ (.inr (by simp))
        have I7 := Lib.hid (I3.out.keepR f7 B3.out HGR.out (by decide) (by decide))
        have F7 : Fr [] w (w3.setRow gr #[.int .i64 (r : Int), .slice none 0 0, .bool false, .bool false]) := F3.via f7 (fun q hq => by simp only [List.mem_cons, List.not_mem_nil, or_false] at hq; rw [hq]; exact HGB.out)
        generalize w3.setRow gr #[.int .i64 (r : Int), .slice none 0 0, .bool false, .bool false] = w7 at B7 f7 I7 F7 ⊢
        have r0 : w7.cell? ⟨gr, 0, none⟩ = some (.int .i64 (r : Int)) := by rw [cell_of B7.out]; rfl
        have r1 : w7.cell? ⟨gr, 1, none⟩ = some (.slice none 0 0) := by rw [cell_of B7.out]; rfl
        have r2 : w7.cell? ⟨gr, 2, none⟩ = some (.bool false) := by rw [cell_of B7.out]; rfl
        have r3 : w7.cell? ⟨gr, 3, none⟩ = some (.bool false) := by rw [cell_of B7.out]; rfl
        have Y9 : Hid (Src Try.prog 4 23 (.slice (some ⟨w7.heap.size, 0, none⟩) 1 1) 1 (rqCells (⟨(r : Int), [], false, false⟩, (none, 0, 0))) (w7.alloc (.cells #[.int .i64 (r : Int), .slice none 0 0, .bool false, .bool false] 31))) := Src_rq Try.underlying23 ⟨(r : Int), [], false, false⟩ (none, 0, 0) 31
        obtain ⟨XS, hXS⟩ : ∃ XS, XS = PO.flatMap rqCells := ⟨_, rfl⟩
        obtain ⟨YS, hYS⟩ : ∃ YS, YS = rqCells (⟨(r : Int), [], false, false⟩, (none, 0, 0)) := ⟨_, rfl⟩
        have O9 : Hid ((w7.alloc (.cells #[.int .i64 (r : Int), .slice none 0 0, .bool false, .bool false] 31)).ownsRow w.heap.size 31 4 (.slice ao i co) i XS) := by
          have e := (I7.out.keep0 ((Fr.refl _ _).alloc (.cells #[.int .i64 (r : Int), .slice none 0 0, .bool false, .bool false] 31))).ro
          rw [HPO.out] at e
          rw [hXS]
          exact e
        rw [← hYS] at Y9
        have X1 : Hid (i + 1 ≤ maxLen) := by show _ ≤ _; unfold maxLen; omega
        have X2 : Hid ((i + 1) * 40 ≤ 140737488355328) := by show _ ≤ _; omega
        have X3 : Hid (w.heap.size ≤ (w7.alloc (.cells #[.int .i64 (r : Int), .slice none 0 0, .bool false, .bool false] 31)).heap.size) := by show _ ≤ _; have := F7.size; simp; omega
        have HXY := Lib.hid (And.intro hXS hYS)
        clear hXS hYS
        go_wp2_with (at_builtin; refine wpList_append_srcN _ rfl _ _ 23 23 rfl w.heap.size 31 i0 (.agg #[.int .i64 0, .slice none 0 0, .bool false, .bool false]) 4 40 Try.underlying23 hi0 hz0 hz1 hz2 rfl ao i co XS rfl O9.out _ 1 YS rfl Y9.out X1.out X2.out X3.out ?_)
        intro a9 c9 w9 ho9 hg9 ha9
        have I9 : Hid (RxI 5 22 31 1 (id : Bs → Bs) bsCells w9 w.heap.size a9 c9 (PO ++ [(⟨(r : Int), [], false, false⟩, (none, 0, 0))]) a1 c1 P1 a2 c2 P2) := I7.out.pushO ((Fr.refl _ _).alloc _) (⟨(r : Int), [], false, false⟩, (none, 0, 0)) (Sb.nil 5 _) (by decide) (by decide) (by rw [HPO.out, ← HXY.out.1, ← HXY.out.2]; exact ho9) (by rw [HPO.out]; exact hg9)
        have F9 : Hid (Fr [] w w9) := (F7.alloc _).via (grownRw hg9) (fun q hq => (row_tag I7.out.ro q hq).1)
        clear ho9 hg9 ha9 O9 Y9 X1 X2 X3 r0 r1 r2 r3
        have e8 : goH r o (rs, all, saved) ⟨k, att, pick, data⟩ = (rs ++ [⟨(r : Int), [], false, false⟩], (P1).map (·.1), (P2).map (·.1)) := by
          unfold goH stepH
          rw [HM.out]
          simp [HST.out.2.2.1, HST.out.2.2.2]
        have HE8 := Lib.hid e8
        clear e8
        go_wp2_with fail
        refine ⟨⟨i + 1, a9, c9, PO ++ [_], a1, c1, P1, a2, c2, P2, by omega, by simp, rfl, by simp [HQ2.out], by simp [HQ1.out], I9.out, by simp [HPO.out], ?_, ?_, ?_, F9.out⟩, by simp [intOf]; omega⟩
        all_goals rw [HE7.out, runS_snoc, HST.out.1, HE8.out]
        simp [HST.out.2.1]
      · have HM := HM0
        obtain ⟨g1, hg1, hc1, hm1, s0, hs0, hs1, hs2⟩ := row_cell (cel := bsCells) (sz := 1) (fun _ => rfl) I2.out.r1 rfl (show t < P1.length by rw [HQ1.out]; exact htl)
        subst hg1
        rw [HQ1.out] at hc1
        unfold maxLen at hm1
        obtain ⟨sw, av, nv, cv⟩ := s0
        have k0 : w2.cell? ⟨g1, t, none⟩ = some (.slice av nv cv) := by
          have e := (hs2 0 (by decide)).1
          rw [Nat.mul_one, Nat.add_zero] at e
          exact e
        have z0 : w2.frozen? ⟨g1, t, none⟩ = false := by
          have e := (hs2 0 (by decide)).2
          rw [Nat.mul_one, Nat.add_zero] at e
          exact e
        have SB : Hid (Sb 5 w2 (av, nv, cv) sw) := I2.out.s1 _ hs0
        have hgd : all.getD t [] = sw := by
          rw [← HST.out.2.2.1, List.getD_eq_getElem?_getD, List.getElem?_map, hs1]
          rfl
        have hsl := SB.out.sl.len
        have hbd := HLE.out.1.getD t
        rw [hgd] at hbd
        simp only at hsl hbd
        have HGD : Hid (all[t]?.getD [] = sw) := by show _ = _; rw [← List.getD_eq_getElem?_getD]; exact hgd
        have HS1 := Lib.hid hs1
        have htI : (t : Int) < (q1 : Int) := by omega
        have hg1r : g1 ≠ gr := fun e => by
          obtain ⟨_, _, c', f', e'⟩ := row_tag I2.out.r1 g1 (mem_blkOf.2 ⟨_, rfl, rfl⟩)
          rw [e] at e'
          have := tag_ne B2.out e'
          exact absurd this (by decide)
        have hg1a : g1 ≠ ga := fun e => by
          obtain ⟨_, _, c', f', e'⟩ := row_tag I2.out.r1 g1 (mem_blkOf.2 ⟨_, rfl, rfl⟩)
          rw [e] at e'
          have := tag_ne A2.out e'
          exact absurd this (by decide)
        clear hs0 hs1 hs2 hgd
        go_wp2_with fail
        refine (sown_n av nv cv sw _ SB.out.sl (by omega)).mono ?_
        rintro e w3 ⟨a3, c3, rfl, O3, f3⟩
        have I3 := Lib.hid (I2.out.keep0 f3)
        have F3 := F2.trans f3
        have B3 := Lib.hid (f3.obj B2.out (by simp))
        have A3 := Lib.hid (f3.obj A2.out (by simp))
        have SB3 := Lib.hid (O3.sb hsl)
        clear O3 k0 z0
        have Y5 : Hid (Src Try.prog 1 44 (.slice (some ⟨w3.heap.size, 0, none⟩) 1 1) 1 (bsCells ((sw, (a3, nv, c3)) : Bs × V3)) (w3.alloc (.cells #[.slice a3 nv c3] 22))) := Src_bs Try.underlying44 ((sw, (a3, nv, c3)) : Bs × V3) 22
        obtain ⟨XS, hXS⟩ : ∃ XS, XS = P1.flatMap bsCells := ⟨_, rfl⟩
        obtain ⟨YS, hYS⟩ : ∃ YS, YS = bsCells ((sw, (a3, nv, c3)) : Bs × V3) := ⟨_, rfl⟩
        have O5 : Hid ((w3.alloc (.cells #[.slice a3 nv c3] 22)).ownsRow w.heap.size 22 1 (.slice (some ⟨g1, 0, none⟩) q1 c1) q1 XS) := by
          have e := (I3.out.keep0 ((Fr.refl _ _).alloc (.cells #[.slice a3 nv c3] 22))).r1
          rw [HQ1.out] at e
          rw [hXS]
          exact e
        rw [← hYS] at Y5
        have X1 : Hid (q1 + 1 ≤ maxLen) := by show _ ≤ _; unfold maxLen; omega
        have X2 : Hid ((q1 + 1) * 24 ≤ 140737488355328) := by show _ ≤ _; omega
        have X3 : Hid (w.heap.size ≤ (w3.alloc (.cells #[.slice a3 nv c3] 22)).heap.size) := by show _ ≤ _; have := F3.size; simp; omega
        have HXY := Lib.hid (And.intro hXS hYS)
        clear hXS hYS
        go_wp2_with (at_builtin; refine wpList_append_srcN _ rfl _ _ 44 44 rfl w.heap.size 22 j0 (.slice none 0 0) 1 24 Try.underlying44 hj0 hy0 hy1 hy2 rfl (some ⟨g1, 0, none⟩) q1 c1 XS rfl O5.out _ 1 YS rfl Y5.out X1.out X2.out X3.out ?_)
        intro a6 c6 w6 ho6 hg6 ha6
        have I6 : Hid (RxI 5 22 31 1 (id : Bs → Bs) bsCells w6 w.heap.size ao co PO a6 c6 (P1 ++ [((sw, (a3, nv, c3)) : Bs × V3)]) a2 c2 P2) := I3.out.push1 ((Fr.refl _ _).alloc _) ((sw, (a3, nv, c3)) : Bs × V3) SB3.out (by decide) (by decide) (by rw [HQ1.out, ← HXY.out.1, ← HXY.out.2]; exact ho6) (by rw [HQ1.out]; exact hg6) (by simpa using ha6)
        have f6 := grownRw hg6
        have tg6 := row_tag (I3.out.keep0 ((Fr.refl _ _).alloc (.cells #[.slice a3 nv c3] 22))).r1
        have F6 : Fr [] w w6 := (F3.alloc _).via f6 (fun q hq => (tg6 q hq).1)
        have B6 : Hid (w6.heap[gr]? = some (.cells #[.int .i64 0, .slice none 0 0, .bool false, .bool false] 31 (0, 0))) := f6.obj (((Fr.refl [] _).alloc _).obj B3.out (by simp)) (fun hm => by
          obtain ⟨_, _, c', f', e'⟩ := tg6 gr hm
          exact absurd (tag_ne (((Fr.refl [] _).alloc (.cells #[.slice a3 nv c3] 22)).obj B3.out (by simp)) e') (by decide))
        have A6 : Hid (w6.heap[ga]? = some (.cells #[.int .i64 k, .int .i64 att, .int .i64 pick, .slice ad nd cd] 26 (0, 0))) := f6.obj (((Fr.refl [] _).alloc _).obj A3.out (by simp)) (fun hm => by
          obtain ⟨_, _, c', f', e'⟩ := tg6 ga hm
          exact absurd (tag_ne (((Fr.refl [] _).alloc (.cells #[.slice a3 nv c3] 22)).obj A3.out (by simp)) e') (by decide))
        clear ho6 hg6 ha6 O5 Y5 X1 X2 X3 tg6
        go_wp2_with (refine wpList_store_at rfl _ _ _ rfl gr 2 rfl 31 (.bool true) [.bool true] #[.int .i64 0, .slice none 0 0, .bool false, .bool false] #[.int .i64 0, .slice none 0 0, .bool true, .bool false] rfl rfl B6.out (by simp) (by intro u hu; simp only [List.mem_cons, List.not_mem_nil, or_false] at hu; subst hu; rfl) sizeB1 rfl ?_; refine Hid.out ?_)
        show wpList _ _ _ _ _ _
        have B7 := Lib.hid (setRow_heap _ _ _ (#[.int .i64 0, .slice none 0 0, .bool true, .bool false] : Array Value) _ _ B6.out)
        have f7 : Fr [gr] w6 (w6.setRow gr #[.int .i64 0, .slice none 0 0, .bool true, .bool false]) := (Fr.refl _ _).setRow _ _ (.inr (by simp))
        have I7 := Lib.hid (I6.out.keepR f7 B6.out HGR.out (by decide) (by decide))
        have F7 : Fr [] w (w6.setRow gr #[.int .i64 0, .slice none 0 0, .bool true, .bool false]) := F6.via f7 (fun q hq => by simp only [List.mem_cons, List.not_mem_nil, or_false] at hq; rw [hq]; exact HGB.out)
        generalize w6.setRow gr #[.int .i64 0, .slice none 0 0, .bool true, .bool false] = w7 at B7 f7 I7 F7 ⊢
        have r0 : w7.cell? ⟨gr, 0, none⟩ = some (.int .i64 0) := by rw [cell_of B7.out]; rfl
        have r1 : w7.cell? ⟨gr, 1, none⟩ = some (.slice none 0 0) := by rw [cell_of B7.out]; rfl
        have r2 : w7.cell? ⟨gr, 2, none⟩ = some (.bool true) := by rw [cell_of B7.out]; rfl
        have r3 : w7.cell? ⟨gr, 3, none⟩ = some (.bool false) := by rw [cell_of B7.out]; rfl
        have Y9 : Hid (Src Try.prog 4 23 (.slice (some ⟨w7.heap.size, 0, none⟩) 1 1) 1 (rqCells (⟨0, [], true, false⟩, (none, 0, 0))) (w7.alloc (.cells #[.int .i64 0, .slice none 0 0, .bool true, .bool false] 31))) := Src_rq Try.underlying23 ⟨0, [], true, false⟩ (none, 0, 0) 31
        obtain ⟨XS, hXS⟩ : ∃ XS, XS = PO.flatMap rqCells := ⟨_, rfl⟩
        obtain ⟨YS, hYS⟩ : ∃ YS, YS = rqCells (⟨0, [], true, false⟩, (none, 0, 0)) := ⟨_, rfl⟩
        have O9 : Hid ((w7.alloc (.cells #[.int .i64 0, .slice none 0 0, .bool true, .bool false] 31)).ownsRow w.heap.size 31 4 (.slice ao i co) i XS) := by
          have e := (I7.out.keep0 ((Fr.refl _ _).alloc (.cells #[.int .i64 0, .slice none 0 0, .bool true, .bool false] 31))).ro
          rw [HPO.out] at e
          rw [hXS]
          exact e
        rw [← hYS] at Y9
        have X1 : Hid (i + 1 ≤ maxLen) := by show _ ≤ _; unfold maxLen; omega
        have X2 : Hid ((i + 1) * 40 ≤ 140737488355328) := by show _ ≤ _; omega
        have X3 : Hid (w.heap.size ≤ (w7.alloc (.cells #[.int .i64 0, .slice none 0 0, .bool true, .bool false] 31)).heap.size) := by show _ ≤ _; have := F7.size; simp; omega
        have HXY := Lib.hid (And.intro hXS hYS)
        clear hXS hYS
        go_wp2_with (at_builtin; refine wpList_append_srcN _ rfl _ _ 23 23 rfl w.heap.size 31 i0 (.agg #[.int .i64 0, .slice none 0 0, .bool false, .bool false]) 4 40 Try.underlying23 hi0 hz0 hz1 hz2 rfl ao i co XS rfl O9.out _ 1 YS rfl Y9.out X1.out X2.out X3.out ?_)
        intro a9 c9 w9 ho9 hg9 ha9
        have I9 : Hid (RxI 5 22 31 1 (id : Bs → Bs) bsCells w9 w.heap.size a9 c9 (PO ++ [(⟨0, [], true, false⟩, (none, 0, 0))]) a6 c6 (P1 ++ [((sw, (a3, nv, c3)) : Bs × V3)]) a2 c2 P2) := I7.out.pushO ((Fr.refl _ _).alloc _) (⟨0, [], true, false⟩, (none, 0, 0)) (Sb.nil 5 _) (by decide) (by decide) (by rw [HPO.out, ← HXY.out.1, ← HXY.out.2]; exact ho9) (by rw [HPO.out]; exact hg9)
        have F9 : Hid (Fr [] w w9) := (F7.alloc _).via (grownRw hg9) (fun q hq => (row_tag I7.out.ro q hq).1)
        clear ho9 hg9 ha9 O9 Y9 X1 X2 X3 r0 r1 r2 r3
        have e8 : goH r o (rs, all, saved) ⟨k, att, pick, data⟩ = (rs ++ [⟨0, [], true, false⟩], ((P1 ++ [((sw, (a3, nv, c3)) : Bs × V3)])).map (·.1), (P2).map (·.1)) := by
          unfold goH stepH
          rw [HM.out]
          simp [HST.out.2.2.1, HST.out.2.2.2, HT.out, HGD.out]
        have HE8 := Lib.hid e8
        clear e8
        go_wp2_with fail
        refine ⟨⟨i + 1, a9, c9, PO ++ [_], a6, c6, (P1 ++ [((sw, (a3, nv, c3)) : Bs × V3)]), a2, c2, P2, by omega, by simp, rfl, by simp [HQ2.out], by simp [HQ1.out], I9.out, by simp [HPO.out], ?_, ?_, ?_, F9.out⟩, by simp [intOf]; omega⟩
        all_goals rw [HE7.out, runS_snoc, HST.out.1, HE8.out]
        simp [HST.out.2.1]
      · have HM := HM0
        have e3 : Fr [] w2 (w2.alloc (.cells #[] 5)) := (Fr.refl _ _).alloc _
        have I3 := Lib.hid (I2.out.keep0 e3)
        have F3 := F2.trans e3
        have B3 := Lib.hid (e3.obj B2.out (by simp))
        have A3 := Lib.hid (e3.obj A2.out (by simp))
        have SB3 : Hid (Sb 5 (w2.alloc (.cells #[] 5)) (some ⟨w2.heap.size, 0, none⟩, 0, 0) []) := ⟨⟨rfl, Nat.le_refl _, by simp [maxLen], .inl rfl⟩, fun x hx h0 => absurd rfl h0⟩
        have Y5 : Hid (Src Try.prog 1 44 (.slice (some ⟨(w2.alloc (.cells #[] 5)).heap.size, 0, none⟩) 1 1) 1 (bsCells (([], ((some ⟨w2.heap.size, 0, none⟩), 0, 0)) : Bs × V3)) ((w2.alloc (.cells #[] 5)).alloc (.cells #[.slice (some ⟨w2.heap.size, 0, none⟩) 0 0] 22))) := Src_bs Try.underlying44 (([], ((some ⟨w2.heap.size, 0, none⟩), 0, 0)) : Bs × V3) 22
        obtain ⟨XS, hXS⟩ : ∃ XS, XS = P1.flatMap bsCells := ⟨_, rfl⟩
        obtain ⟨YS, hYS⟩ : ∃ YS, YS = bsCells (([], ((some ⟨w2.heap.size, 0, none⟩), 0, 0)) : Bs × V3) := ⟨_, rfl⟩
        have O5 : Hid (((w2.alloc (.cells #[] 5)).alloc (.cells #[.slice (some ⟨w2.heap.size, 0, none⟩) 0 0] 22)).ownsRow w.heap.size 22 1 (.slice a1 q1 c1) q1 XS) := by
          have e := (I3.out.keep0 ((Fr.refl _ _).alloc (.cells #[.slice (some ⟨w2.heap.size, 0, none⟩) 0 0] 22))).r1
          rw [HQ1.out] at e
          rw [hXS]
          exact e
        rw [← hYS, show (w2.alloc (.cells #[] 5)).heap.size = w2.heap.size + 1 by simp] at Y5
        have X1 : Hid (q1 + 1 ≤ maxLen) := by show _ ≤ _; unfold maxLen; omega
        have X2 : Hid ((q1 + 1) * 24 ≤ 140737488355328) := by show _ ≤ _; omega
        have X3 : Hid (w.heap.size ≤ ((w2.alloc (.cells #[] 5)).alloc (.cells #[.slice (some ⟨w2.heap.size, 0, none⟩) 0 0] 22)).heap.size) := by show _ ≤ _; have := F2.size; simp; omega
        have HXY := Lib.hid (And.intro hXS hYS)
        clear hXS hYS
        go_wp2_with (at_builtin; refine wpList_append_srcN _ rfl _ _ 44 44 rfl w.heap.size 22 j0 (.slice none 0 0) 1 24 Try.underlying44 hj0 hy0 hy1 hy2 rfl a1 q1 c1 XS rfl O5.out _ 1 YS rfl Y5.out X1.out X2.out X3.out ?_)
        intro a6 c6 w6 ho6 hg6 ha6
        have I6 : Hid (RxI 5 22 31 1 (id : Bs → Bs) bsCells w6 w.heap.size ao co PO a6 c6 (P1 ++ [(([], ((some ⟨w2.heap.size, 0, none⟩), 0, 0)) : Bs × V3)]) a2 c2 P2) := I3.out.push1 ((Fr.refl _ _).alloc _) (([], ((some ⟨w2.heap.size, 0, none⟩), 0, 0)) : Bs × V3) SB3.out (by decide) (by decide) (by rw [HQ1.out, ← HXY.out.1, ← HXY.out.2]; exact ho6) (by rw [HQ1.out]; exact hg6) (by simpa using ha6)
        have f6 := grownRw hg6
        have tg6 := row_tag (I3.out.keep0 ((Fr.refl _ _).alloc (.cells #[.slice (some ⟨w2.heap.size, 0, none⟩) 0 0] 22))).r1
        have F6 : Fr [] w w6 := (F3.alloc _).via f6 (fun q hq => (tg6 q hq).1)
        have B6 : Hid (w6.heap[gr]? = some (.cells #[.int .i64 0, .slice none 0 0, .bool false, .bool false] 31 (0, 0))) := f6.obj (((Fr.refl [] _).alloc _).obj B3.out (by simp)) (fun hm => by
          obtain ⟨_, _, c', f', e'⟩ := tg6 gr hm
          exact absurd (tag_ne (((Fr.refl [] _).alloc (.cells #[.slice (some ⟨w2.heap.size, 0, none⟩) 0 0] 22)).obj B3.out (by simp)) e') (by decide))
        have A6 : Hid (w6.heap[ga]? = some (.cells #[.int .i64 k, .int .i64 att, .int .i64 pick, .slice ad nd cd] 26 (0, 0))) := f6.obj (((Fr.refl [] _).alloc _).obj A3.out (by simp)) (fun hm => by
          obtain ⟨_, _, c', f', e'⟩ := tg6 ga hm
          exact absurd (tag_ne (((Fr.refl [] _).alloc (.cells #[.slice (some ⟨w2.heap.size, 0, none⟩) 0 0] 22)).obj A3.out (by simp)) e') (by decide))
        clear ho6 hg6 ha6 O5 Y5 X1 X2 X3 tg6
        have r0 : w6.cell? ⟨gr, 0, none⟩ = some (.int .i64 0) := by rw [cell_of B6.out]; rfl
        have r1 : w6.cell? ⟨gr, 1, none⟩ = some (.slice none 0 0) := by rw [cell_of B6.out]; rfl
        have r2 : w6.cell? ⟨gr, 2, none⟩ = some (.bool false) := by rw [cell_of B6.out]; rfl
        have r3 : w6.cell? ⟨gr, 3, none⟩ = some (.bool false) := by rw [cell_of B6.out]; rfl
        have Y9 : Hid (Src Try.prog 4 23 (.slice (some ⟨w6.heap.size, 0, none⟩) 1 1) 1 (rqCells (⟨0, [], false, false⟩, (none, 0, 0))) (w6.alloc (.cells #[.int .i64 0, .slice none 0 0, .bool false, .bool false] 31))) := Src_rq Try.underlying23 ⟨0, [], false, false⟩ (none, 0, 0) 31
        obtain ⟨XS, hXS⟩ : ∃ XS, XS = PO.flatMap rqCells := ⟨_, rfl⟩
        obtain ⟨YS, hYS⟩ : ∃ YS, YS = rqCells (⟨0, [], false, false⟩, (none, 0, 0)) := ⟨_, rfl⟩
        have O9 : Hid ((w6.alloc (.cells #[.int .i64 0, .slice none 0 0, .bool false, .bool false] 31)).ownsRow w.heap.size 31 4 (.slice ao i co) i XS) := by
          have e := (I6.out.keep0 ((Fr.refl _ _).alloc (.cells #[.int .i64 0, .slice none 0 0, .bool false, .bool false] 31))).ro
          rw [HPO.out] at e
          rw [hXS]
          exact e
        rw [← hYS] at Y9
        have X1 : Hid (i + 1 ≤ maxLen) := by show _ ≤ _; unfold maxLen; omega
        have X2 : Hid ((i + 1) * 40 ≤ 140737488355328) := by show _ ≤ _; omega
        have X3 : Hid (w.heap.size ≤ (w6.alloc (.cells #[.int .i64 0, .slice none 0 0, .bool false, .bool false] 31)).heap.size) := by show _ ≤ _; have := F6.size; simp; omega
        have HXY := Lib.hid (And.intro hXS hYS)
        clear hXS hYS
        go_wp2_with (at_builtin; refine wpList_append_srcN _ rfl _ _ 23 23 rfl w.heap.size 31 i0 (.agg #[.int .i64 0, .slice none 0 0, .bool false, .bool false]) 4 40 Try.underlying23 hi0 hz0 hz1 hz2 rfl ao i co XS rfl O9.out _ 1 YS rfl Y9.out X1.out X2.out X3.out ?_)
        intro a9 c9 w9 ho9 hg9 ha9
        have I9 : Hid (RxI 5 22 31 1 (id : Bs → Bs) bsCells w9 w.heap.size a9 c9 (PO ++ [(⟨0, [], false, false⟩, (none, 0, 0))]) a6 c6 (P1 ++ [(([], (some ⟨w2.heap.size, 0, none⟩, 0, 0)) : Bs × V3)]) a2 c2 P2) := I6.out.pushO ((Fr.refl _ _).alloc _) (⟨0, [], false, false⟩, (none, 0, 0)) (Sb.nil 5 _) (by decide) (by decide) (by rw [HPO.out, ← HXY.out.1, ← HXY.out.2]; exact ho9) (by rw [HPO.out]; exact hg9)
        have F9 : Hid (Fr [] w w9) := (F6.alloc _).via (grownRw hg9) (fun q hq => (row_tag I6.out.ro q hq).1)
        clear ho9 hg9 ha9 O9 Y9 X1 X2 X3 r0 r1 r2 r3
        have e8 : goH r o (rs, all, saved) ⟨k, att, pick, data⟩ = (rs ++ [⟨0, [], false, false⟩], ((P1 ++ [(([], (some ⟨w2.heap.size, 0, none⟩, 0, 0)) : Bs × V3)])).map (·.1), (P2).map (·.1)) := by
          unfold goH stepH
          rw [HM.out]
          simp [HST.out.2.2.1, HST.out.2.2.2]
        have HE8 := Lib.hid e8
        clear e8
        go_wp2_with fail
        refine ⟨⟨i + 1, a9, c9, PO ++ [_], a6, c6, (P1 ++ [(([], (some ⟨w2.heap.size, 0, none⟩, 0, 0)) : Bs × V3)]), a2, c2, P2, by omega, by simp, rfl, by simp [HQ2.out], by simp [HQ1.out], I9.out, by simp [HPO.out], ?_, ?_, ?_, F9.out⟩, by simp [intOf]; omega⟩
        all_goals rw [HE7.out, runS_snoc, HST.out.1, HE8.out]
        simp [HST.out.2.1]
      · have HM := HM0
        obtain ⟨g1, hg1, hc1, hm1, s0, hs0, hs1, hs2⟩ := row_cell (cel := bsCells) (sz := 1) (fun _ => rfl) I2.out.r1 rfl (show t < P1.length by rw [HQ1.out]; exact htl)
        subst hg1
        rw [HQ1.out] at hc1
        unfold maxLen at hm1
        obtain ⟨sw, av, nv, cv⟩ := s0
        have k0 : w2.cell? ⟨g1, t, none⟩ = some (.slice av nv cv) := by
          have e := (hs2 0 (by decide)).1
          rw [Nat.mul_one, Nat.add_zero] at e
          exact e
        have z0 : w2.frozen? ⟨g1, t, none⟩ = false := by
          have e := (hs2 0 (by decide)).2
          rw [Nat.mul_one, Nat.add_zero] at e
          exact e
        have SB : Hid (Sb 5 w2 (av, nv, cv) sw) := I2.out.s1 _ hs0
        have hgd : all.getD t [] = sw := by
          rw [← HST.out.2.2.1, List.getD_eq_getElem?_getD, List.getElem?_map, hs1]
          rfl
        have hsl := SB.out.sl.len
        have hbd := HLE.out.1.getD t
        rw [hgd] at hbd
        simp only at hsl hbd
        have HGD : Hid (all[t]?.getD [] = sw) := by show _ = _; rw [← List.getD_eq_getElem?_getD]; exact hgd
        have HS1 := Lib.hid hs1
        have htI : (t : Int) < (q1 : Int) := by omega
        have hg1r : g1 ≠ gr := fun e => by
          obtain ⟨_, _, c', f', e'⟩ := row_tag I2.out.r1 g1 (mem_blkOf.2 ⟨_, rfl, rfl⟩)
          rw [e] at e'
          have := tag_ne B2.out e'
          exact absurd this (by decide)
        have hg1a : g1 ≠ ga := fun e => by
          obtain ⟨_, _, c', f', e'⟩ := row_tag I2.out.r1 g1 (mem_blkOf.2 ⟨_, rfl, rfl⟩)
          rw [e] at e'
          have := tag_ne A2.out e'
          exact absurd this (by decide)
        clear hs0 hs1 hs2 hgd
        go_wp2_with fail
        refine (sown_n av nv cv sw _ SB.out.sl (by omega)).mono ?_
        rintro e w3 ⟨a3, c3, rfl, O3, f3⟩
        have I3 := Lib.hid (I2.out.keep0 f3)
        have F3 := F2.trans f3
        have B3 := Lib.hid (f3.obj B2.out (by simp))
        have A3 := Lib.hid (f3.obj A2.out (by simp))
        have SB3 := Lib.hid (O3.sb hsl)
        clear O3 k0 z0
        have Y5 : Hid (Src Try.prog 1 44 (.slice (some ⟨w3.heap.size, 0, none⟩) 1 1) 1 (bsCells ((sw, (a3, nv, c3)) : Bs × V3)) (w3.alloc (.cells #[.slice a3 nv c3] 22))) := Src_bs Try.underlying44 ((sw, (a3, nv, c3)) : Bs × V3) 22
        obtain ⟨XS, hXS⟩ : ∃ XS, XS = P2.flatMap bsCells := ⟨_, rfl⟩
        obtain ⟨YS, hYS⟩ : ∃ YS, YS = bsCells ((sw, (a3, nv, c3)) : Bs × V3) := ⟨_, rfl⟩
        have O5 : Hid ((w3.alloc (.cells #[.slice a3 nv c3] 22)).ownsRow w.heap.size 22 1 (.slice a2 q2 c2) q2 XS) := by
          have e := (I3.out.keep0 ((Fr.refl _ _).alloc (.cells #[.slice a3 nv c3] 22))).r2
          rw [HQ2.out] at e
          rw [hXS]
          exact e
        rw [← hYS] at Y5
        have X1 : Hid (q2 + 1 ≤ maxLen) := by show _ ≤ _; unfold maxLen; omega
        have X2 : Hid ((q2 + 1) * 24 ≤ 140737488355328) := by show _ ≤ _; omega
        have X3 : Hid (w.heap.size ≤ (w3.alloc (.cells #[.slice a3 nv c3] 22)).heap.size) := by show _ ≤ _; have := F3.size; simp; omega
        have HXY := Lib.hid (And.intro hXS hYS)
        clear hXS hYS
        go_wp2_with (at_builtin; refine wpList_append_srcN _ rfl _ _ 44 44 rfl w.heap.size 22 j0 (.slice none 0 0) 1 24 Try.underlying44 hj0 hy0 hy1 hy2 rfl a2 q2 c2 XS rfl O5.out _ 1 YS rfl Y5.out X1.out X2.out X3.out ?_)
        intro a6 c6 w6 ho6 hg6 ha6
        have I6 : Hid (RxI 5 22 31 1 (id : Bs → Bs) bsCells w6 w.heap.size ao co PO (some ⟨g1, 0, none⟩) c1 P1 a6 c6 (P2 ++ [((sw, (a3, nv, c3)) : Bs × V3)])) := I3.out.push2 ((Fr.refl _ _).alloc _) ((sw, (a3, nv, c3)) : Bs × V3) SB3.out (by decide) (by decide) (by rw [HQ2.out, ← HXY.out.1, ← HXY.out.2]; exact ho6) (by rw [HQ2.out]; exact hg6) (by simpa using ha6)
        have f6 := grownRw hg6
        have tg6 := row_tag (I3.out.keep0 ((Fr.refl _ _).alloc (.cells #[.slice a3 nv c3] 22))).r2
        have F6 : Fr [] w w6 := (F3.alloc _).via f6 (fun q hq => (tg6 q hq).1)
        have B6 : Hid (w6.heap[gr]? = some (.cells #[.int .i64 0, .slice none 0 0, .bool false, .bool false] 31 (0, 0))) := f6.obj (((Fr.refl [] _).alloc _).obj B3.out (by simp)) (fun hm => by
          obtain ⟨_, _, c', f', e'⟩ := tg6 gr hm
          exact absurd (tag_ne (((Fr.refl [] _).alloc (.cells #[.slice a3 nv c3] 22)).obj B3.out (by simp)) e') (by decide))
        have A6 : Hid (w6.heap[ga]? = some (.cells #[.int .i64 k, .int .i64 att, .int .i64 pick, .slice ad nd cd] 26 (0, 0))) := f6.obj (((Fr.refl [] _).alloc _).obj A3.out (by simp)) (fun hm => by
          obtain ⟨_, _, c', f', e'⟩ := tg6 ga hm
          exact absurd (tag_ne (((Fr.refl [] _).alloc (.cells #[.slice a3 nv c3] 22)).obj A3.out (by simp)) e') (by decide))
        clear ho6 hg6 ha6 O5 Y5 X1 X2 X3 tg6
        go_wp2_with (refine wpList_store_at rfl _ _ _ rfl gr 2 rfl 31 (.bool true) [.bool true] #[.int .i64 0, .slice none 0 0, .bool false, .bool false] #[.int .i64 0, .slice none 0 0, .bool true, .bool false] rfl rfl B6.out (by simp) (by intro u hu; simp only [List.mem_cons, List.not_mem_nil, or_false] at hu; subst hu; rfl) sizeB1 rfl ?_; refine Hid.out ?_)
        show wpList _ _ _ _ _ _
        have B7 := Lib.hid (setRow_heap _ _ _ (#[.int .i64 0, .slice none 0 0, .bool true, .bool false] : Array Value) _ _ B6.out)
        have f7 : Fr [gr] w6 (w6.setRow gr #[.int .i64 0, .slice none 0 0, .bool true, .bool false]) := (Fr.refl _ _).setRow _ _ (.inr (by simp))
        have I7 := Lib.hid (I6.out.keepR f7 B6.out HGR.out (by decide) (by decide))
        have F7 : Fr [] w (w6.setRow gr #[.int .i64 0, .slice none 0 0, .bool true, .bool false]) := F6.via f7 (fun q hq => by simp only [List.mem_cons, List.not_mem_nil, or_false] at hq; rw [hq]; exact HGB.out)
        generalize w6.setRow gr #[.int .i64 0, .slice none 0 0, .bool true, .bool false] = w7 at B7 f7 I7 F7 ⊢
        have r0 : w7.cell? ⟨gr, 0, none⟩ = some (.int .i64 0) := by rw [cell_of B7.out]; rfl
        have r1 : w7.cell? ⟨gr, 1, none⟩ = some (.slice none 0 0) := by rw [cell_of B7.out]; rfl
        have r2 : w7.cell? ⟨gr, 2, none⟩ = some (.bool true) := by rw [cell_of B7.out]; rfl
        have r3 : w7.cell? ⟨gr, 3, none⟩ = some (.bool false) := by rw [cell_of B7.out]; rfl
        have Y9 : Hid (Src Try.prog 4 23 (.slice (some ⟨w7.heap.size, 0, none⟩) 1 1) 1 (rqCells (⟨0, [], true, false⟩, (none, 0, 0))) (w7.alloc (.cells #[.int .i64 0, .slice none 0 0, .bool true, .bool false] 31))) := Src_rq Try.underlying23 ⟨0, [], true, false⟩ (none, 0, 0) 31
        obtain ⟨XS, hXS⟩ : ∃ XS, XS = PO.flatMap rqCells := ⟨_, rfl⟩
        obtain ⟨YS, hYS⟩ : ∃ YS, YS = rqCells (⟨0, [], true, false⟩, (none, 0, 0)) := ⟨_, rfl⟩
        have O9 : Hid ((w7.alloc (.cells #[.int .i64 0, .slice none 0 0, .bool true, .bool false] 31)).ownsRow w.heap.size 31 4 (.slice ao i co) i XS) := by
          have e := (I7.out.keep0 ((Fr.refl _ _).alloc (.cells #[.int .i64 0, .slice none 0 0, .bool true, .bool false] 31))).ro
          rw [HPO.out] at e
          rw [hXS]
          exact e
        rw [← hYS] at Y9
        have X1 : Hid (i + 1 ≤ maxLen) := by show _ ≤ _; unfold maxLen; omega
        have X2 : Hid ((i + 1) * 40 ≤ 140737488355328) := by show _ ≤ _; omega
        have X3 : Hid (w.heap.size ≤ (w7.alloc (.cells #[.int .i64 0, .slice none 0 0, .bool true, .bool false] 31)).heap.size) := by show _ ≤ _; have := F7.size; simp; omega
        have HXY := Lib.hid (And.intro hXS hYS)
        clear hXS hYS
        go_wp2_with (at_builtin; refine wpList_append_srcN _ rfl _ _ 23 23 rfl w.heap.size 31 i0 (.agg #[.int .i64 0, .slice none 0 0, .bool false, .bool false]) 4 40 Try.underlying23 hi0 hz0 hz1 hz2 rfl ao i co XS rfl O9.out _ 1 YS rfl Y9.out X1.out X2.out X3.out ?_)
        intro a9 c9 w9 ho9 hg9 ha9
        have I9 : Hid (RxI 5 22 31 1 (id : Bs → Bs) bsCells w9 w.heap.size a9 c9 (PO ++ [(⟨0, [], true, false⟩, (none, 0, 0))]) (some ⟨g1, 0, none⟩) c1 P1 a6 c6 (P2 ++ [((sw, (a3, nv, c3)) : Bs × V3)])) := I7.out.pushO ((Fr.refl _ _).alloc _) (⟨0, [], true, false⟩, (none, 0, 0)) (Sb.nil 5 _) (by decide) (by decide) (by rw [HPO.out, ← HXY.out.1, ← HXY.out.2]; exact ho9) (by rw [HPO.out]; exact hg9)
        have F9 : Hid (Fr [] w w9) := (F7.alloc _).via (grownRw hg9) (fun q hq => (row_tag I7.out.ro q hq).1)
        clear ho9 hg9 ha9 O9 Y9 X1 X2 X3 r0 r1 r2 r3
        have e8 : goH r o (rs, all, saved) ⟨k, att, pick, data⟩ = (rs ++ [⟨0, [], true, false⟩], (P1).map (·.1), ((P2 ++ [((sw, (a3, nv, c3)) : Bs × V3)])).map (·.1)) := by
          unfold goH stepH
          rw [HM.out]
          simp [HST.out.2.2.1, HST.out.2.2.2, HT.out, HGD.out]
        have HE8 := Lib.hid e8
        clear e8
        go_wp2_with fail
        refine ⟨⟨i + 1, a9, c9, PO ++ [_], (some ⟨g1, 0, none⟩), c1, P1, a6, c6, (P2 ++ [((sw, (a3, nv, c3)) : Bs × V3)]), by omega, by simp, rfl, by simp [HQ2.out], by simp [HQ1.out], I9.out, by simp [HPO.out], ?_, ?_, ?_, F9.out⟩, by simp [intOf]; omega⟩
        all_goals rw [HE7.out, runS_snoc, HST.out.1, HE8.out]
        simp [HST.out.2.1]
      · have HM := HM0
        obtain ⟨g1, hg1, hc1, hm1, s0, hs0, hs1, hs2⟩ := row_cell (cel := bsCells) (sz := 1) (fun _ => rfl) I2.out.r1 rfl (show t < P1.length by rw [HQ1.out]; exact htl)
        subst hg1
        rw [HQ1.out] at hc1
        unfold maxLen at hm1
        obtain ⟨sw, av, nv, cv⟩ := s0
        have k0 : w2.cell? ⟨g1, t, none⟩ = some (.slice av nv cv) := by
          have e := (hs2 0 (by decide)).1
          rw [Nat.mul_one, Nat.add_zero] at e
          exact e
        have z0 : w2.frozen? ⟨g1, t, none⟩ = false := by
          have e := (hs2 0 (by decide)).2
          rw [Nat.mul_one, Nat.add_zero] at e
          exact e
        have SB : Hid (Sb 5 w2 (av, nv, cv) sw) := I2.out.s1 _ hs0
        have hgd : all.getD t [] = sw := by
          rw [← HST.out.2.2.1, List.getD_eq_getElem?_getD, List.getElem?_map, hs1]
          rfl
        have hsl := SB.out.sl.len
        have hbd := HLE.out.1.getD t
        rw [hgd] at hbd
        simp only at hsl hbd
        have HGD : Hid (all[t]?.getD [] = sw) := by show _ = _; rw [← List.getD_eq_getElem?_getD]; exact hgd
        have HS1 := Lib.hid hs1
        have htI : (t : Int) < (q1 : Int) := by omega
        have hg1r : g1 ≠ gr := fun e => by
          obtain ⟨_, _, c', f', e'⟩ := row_tag I2.out.r1 g1 (mem_blkOf.2 ⟨_, rfl, rfl⟩)
          rw [e] at e'
          have := tag_ne B2.out e'
          exact absurd this (by decide)
        have hg1a : g1 ≠ ga := fun e => by
          obtain ⟨_, _, c', f', e'⟩ := row_tag I2.out.r1 g1 (mem_blkOf.2 ⟨_, rfl, rfl⟩)
          rw [e] at e'
          have := tag_ne A2.out e'
          exact absurd this (by decide)
        clear hs0 hs1 hs2 hgd
        go_wp2_with fail
        refine (sown_n av nv cv sw _ SB.out.sl (by omega)).mono ?_
        rintro e w3 ⟨a3, c3, rfl, O3, f3⟩
        have I3 := Lib.hid (I2.out.keep0 f3)
        have F3 := F2.trans f3
        have B3 := Lib.hid (f3.obj B2.out (by simp))
        have A3 := Lib.hid (f3.obj A2.out (by simp))
        have SB3 := Lib.hid (O3.sb hsl)
        clear O3 k0 z0
        have Y5 : Hid (Src Try.prog 1 44 (.slice (some ⟨w3.heap.size, 0, none⟩) 1 1) 1 (bsCells ((sw, (a3, nv, c3)) : Bs × V3)) (w3.alloc (.cells #[.slice a3 nv c3] 22))) := Src_bs Try.underlying44 ((sw, (a3, nv, c3)) : Bs × V3) 22
        obtain ⟨XS, hXS⟩ : ∃ XS, XS = P2.flatMap bsCells := ⟨_, rfl⟩
        obtain ⟨YS, hYS⟩ : ∃ YS, YS = bsCells ((sw, (a3, nv, c3)) : Bs × V3) := ⟨_, rfl⟩
        have O5 : Hid ((w3.alloc (.cells #[.slice a3 nv c3] 22)).ownsRow w.heap.size 22 1 (.slice a2 q2 c2) q2 XS) := by
          have e := (I3.out.keep0 ((Fr.refl _ _).alloc (.cells #[.slice a3 nv c3] 22))).r2
          rw [HQ2.out] at e
          rw [hXS]
          exact e
        rw [← hYS] at Y5
        have X1 : Hid (q2 + 1 ≤ maxLen) := by show _ ≤ _; unfold maxLen; omega
        have X2 : Hid ((q2 + 1) * 24 ≤ 140737488355328) := by show _ ≤ _; omega
        have X3 : Hid (w.heap.size ≤ (w3.alloc (.cells #[.slice a3 nv c3] 22)).heap.size) := by show _ ≤ _; have := F3.size; simp; omega
        have HXY := Lib.hid (And.intro hXS hYS)
        clear hXS hYS
        go_wp2_with (at_builtin; refine wpList_append_srcN _ rfl _ _ 44 44 rfl w.heap.size 22 j0 (.slice none 0 0) 1 24 Try.underlying44 hj0 hy0 hy1 hy2 rfl a2 q2 c2 XS rfl O5.out _ 1 YS rfl Y5.out X1.out X2.out X3.out ?_)
        intro a6 c6 w6 ho6 hg6 ha6
        have I6 : Hid (RxI 5 22 31 1 (id : Bs → Bs) bsCells w6 w.heap.size ao co PO (some ⟨g1, 0, none⟩) c1 P1 a6 c6 (P2 ++ [((sw, (a3, nv, c3)) : Bs × V3)])) := I3.out.push2 ((Fr.refl _ _).alloc _) ((sw, (a3, nv, c3)) : Bs × V3) SB3.out (by decide) (by decide) (by rw [HQ2.out, ← HXY.out.1, ← HXY.out.2]; exact ho6) (by rw [HQ2.out]; exact hg6) (by simpa using ha6)
        have f6 := grownRw hg6
        have tg6 := row_tag (I3.out.keep0 ((Fr.refl _ _).alloc (.cells #[.slice a3 nv c3] 22))).r2
        have F6 : Fr [] w w6 := (F3.alloc _).via f6 (fun q hq => (tg6 q hq).1)
        have B6 : Hid (w6.heap[gr]? = some (.cells #[.int .i64 0, .slice none 0 0, .bool false, .bool false] 31 (0, 0))) := f6.obj (((Fr.refl [] _).alloc _).obj B3.out (by simp)) (fun hm => by
          obtain ⟨_, _, c', f', e'⟩ := tg6 gr hm
          exact absurd (tag_ne (((Fr.refl [] _).alloc (.cells #[.slice a3 nv c3] 22)).obj B3.out (by simp)) e') (by decide))
        have A6 : Hid (w6.heap[ga]? = some (.cells #[.int .i64 k, .int .i64 att, .int .i64 pick, .slice ad nd cd] 26 (0, 0))) := f6.obj (((Fr.refl [] _).alloc _).obj A3.out (by simp)) (fun hm => by
          obtain ⟨_, _, c', f', e'⟩ := tg6 ga hm
          exact absurd (tag_ne (((Fr.refl [] _).alloc (.cells #[.slice a3 nv c3] 22)).obj A3.out (by simp)) e') (by decide))
        clear ho6 hg6 ha6 O5 Y5 X1 X2 X3 tg6
        have v3 : w6.cell? ⟨ga, 3, none⟩ = some (.slice ad nd cd) := by rw [cell_of A6.out]; rfl
        go_wp2_with fail
        refine (sown_n ad nd cd data _ (SW.out.keep0 F6) (by omega)).mono ?_
        rintro e w7 ⟨av7, cv7, rfl, O7, f7⟩
        have I7 := Lib.hid (I6.out.keep0 f7)
        have F7 := F6.trans f7
        have B7 := Lib.hid (f7.obj B6.out (by simp))
        have SB7 := Lib.hid (O7.sb HDL.out)
        clear O7 v3
        go_wp2_with (refine wpList_store_bits rfl _ _ _ rfl gr rfl 31 #[.int .i64 0, .slice av7 nd cv7, .bool true, .bool false] #[.int .i64 0, .slice none 0 0, .bool false, .bool false] rfl B7.out rfl (by intro v hv; simp at hv; rcases hv with rfl | rfl | rfl | rfl <;> rfl) sizeRR ?_; refine Hid.out ?_)
        show wpList _ _ _ _ _ _
        have B8 := Lib.hid (setRow_heap _ _ _ (#[.int .i64 0, .slice av7 nd cv7, .bool true, .bool false] : Array Value) _ _ B7.out)
        have f8 : Fr [gr] w7 (w7.setRow gr #[.int .i64 0, .slice av7 nd cv7, .bool true, .bool false]) := (Fr.refl _ _).setRow _ _ (.inr (by simp))
        have I8 := Lib.hid (I7.out.keepR f8 B7.out HGR.out (by decide) (by decide))
        have F8 : Fr [] w (w7.setRow gr #[.int .i64 0, .slice av7 nd cv7, .bool true, .bool false]) := F7.via f8 (fun q hq => by simp only [List.mem_cons, List.not_mem_nil, or_false] at hq; rw [hq]; exact HGB.out)
        generalize w7.setRow gr #[.int .i64 0, .slice av7 nd cv7, .bool true, .bool false] = w8 at B8 f8 I8 F8 ⊢
        have SB8 := Lib.hid (SB7.out.keep f8 (fun k hk cur fz e => by
          simp only [List.mem_cons, List.not_mem_nil, or_false] at hk
          rw [hk] at e
          exact absurd (tag_ne B7.out e) (by decide)))
        have r0 : w8.cell? ⟨gr, 0, none⟩ = some (.int .i64 0) := by rw [cell_of B8.out]; rfl
        have r1 : w8.cell? ⟨gr, 1, none⟩ = some (.slice av7 nd cv7) := by rw [cell_of B8.out]; rfl
        have r2 : w8.cell? ⟨gr, 2, none⟩ = some (.bool true) := by rw [cell_of B8.out]; rfl
        have r3 : w8.cell? ⟨gr, 3, none⟩ = some (.bool false) := by rw [cell_of B8.out]; rfl
        have Y9 : Hid (Src Try.prog 4 23 (.slice (some ⟨w8.heap.size, 0, none⟩) 1 1) 1 (rqCells (⟨0, data, true, false⟩, (av7, nd, cv7))) (w8.alloc (.cells #[.int .i64 0, .slice av7 nd cv7, .bool true, .bool false] 31))) := Src_rq Try.underlying23 ⟨0, data, true, false⟩ (av7, nd, cv7) 31
        obtain ⟨XS, hXS⟩ : ∃ XS, XS = PO.flatMap rqCells := ⟨_, rfl⟩
        obtain ⟨YS, hYS⟩ : ∃ YS, YS = rqCells (⟨0, data, true, false⟩, (av7, nd, cv7)) := ⟨_, rfl⟩
        have O9 : Hid ((w8.alloc (.cells #[.int .i64 0, .slice av7 nd cv7, .bool true, .bool false] 31)).ownsRow w.heap.size 31 4 (.slice ao i co) i XS) := by
          have e := (I8.out.keep0 ((Fr.refl _ _).alloc (.cells #[.int .i64 0, .slice av7 nd cv7, .bool true, .bool false] 31))).ro
          rw [HPO.out] at e
          rw [hXS]
          exact e
        rw [← hYS] at Y9
        have X1 : Hid (i + 1 ≤ maxLen) := by show _ ≤ _; unfold maxLen; omega
        have X2 : Hid ((i + 1) * 40 ≤ 140737488355328) := by show _ ≤ _; omega
        have X3 : Hid (w.heap.size ≤ (w8.alloc (.cells #[.int .i64 0, .slice av7 nd cv7, .bool true, .bool false] 31)).heap.size) := by show _ ≤ _; have := F8.size; simp; omega
        have HXY := Lib.hid (And.intro hXS hYS)
        clear hXS hYS
        go_wp2_with (at_builtin; refine wpList_append_srcN _ rfl _ _ 23 23 rfl w.heap.size 31 i0 (.agg #[.int .i64 0, .slice none 0 0, .bool false, .bool false]) 4 40 Try.underlying23 hi0 hz0 hz1 hz2 rfl ao i co XS rfl O9.out _ 1 YS rfl Y9.out X1.out X2.out X3.out ?_)
        intro a9 c9 w9 ho9 hg9 ha9
        have I9 : Hid (RxI 5 22 31 1 (id : Bs → Bs) bsCells w9 w.heap.size a9 c9 (PO ++ [(⟨0, data, true, false⟩, (av7, nd, cv7))]) (some ⟨g1, 0, none⟩) c1 P1 a6 c6 (P2 ++ [((sw, (a3, nv, c3)) : Bs × V3)])) := I8.out.pushO ((Fr.refl _ _).alloc _) (⟨0, data, true, false⟩, (av7, nd, cv7)) SB8.out (by decide) (by decide) (by rw [HPO.out, ← HXY.out.1, ← HXY.out.2]; exact ho9) (by rw [HPO.out]; exact hg9)
        have F9 : Hid (Fr [] w w9) := (F8.alloc _).via (grownRw hg9) (fun q hq => (row_tag I8.out.ro q hq).1)
        clear ho9 hg9 ha9 O9 Y9 X1 X2 X3 r0 r1 r2 r3
        have e8 : goH r o (rs, all, saved) ⟨k, att, pick, data⟩ = (rs ++ [⟨0, data, true, false⟩], (P1).map (·.1), ((P2 ++ [((sw, (a3, nv, c3)) : Bs × V3)])).map (·.1)) := by
          unfold goH stepH
          rw [HM.out]
          simp [HST.out.2.2.1, HST.out.2.2.2, HT.out, HGD.out]
        have HE8 := Lib.hid e8
        clear e8
        go_wp2_with fail
        refine ⟨⟨i + 1, a9, c9, PO ++ [_], (some ⟨g1, 0, none⟩), c1, P1, a6, c6, (P2 ++ [((sw, (a3, nv, c3)) : Bs × V3)]), by omega, by simp, rfl, by simp [HQ2.out], by simp [HQ1.out], I9.out, by simp [HPO.out], ?_, ?_, ?_, F9.out⟩, by simp [intOf]; omega⟩
        all_goals rw [HE7.out, runS_snoc, HST.out.1, HE8.out]
        simp [HST.out.2.1]
      · have HM := HM0
        by_cases h0 : q2 = 0
        · have hs0 : saved.length = 0 := by rw [← HST.out.2.2.2, List.length_map, HQ2.out]; exact h0
          have HS0 := Lib.hid hs0
          have hz : ¬ (0 : Int) < (q2 : Int) := by omega
          have hz' : decide ((0 : Int) < (q2 : Int)) = false := by simp; omega
          clear h0 hs0
          have r0 : w2.cell? ⟨gr, 0, none⟩ = some (.int .i64 0) := by rw [cell_of B2.out]; rfl
          have r1 : w2.cell? ⟨gr, 1, none⟩ = some (.slice none 0 0) := by rw [cell_of B2.out]; rfl
          have r2 : w2.cell? ⟨gr, 2, none⟩ = some (.bool false) := by rw [cell_of B2.out]; rfl
          have r3 : w2.cell? ⟨gr, 3, none⟩ = some (.bool false) := by rw [cell_of B2.out]; rfl
          have Y9 : Hid (Src Try.prog 4 23 (.slice (some ⟨w2.heap.size, 0, none⟩) 1 1) 1 (rqCells (⟨0, [], false, false⟩, (none, 0, 0))) (w2.alloc (.cells #[.int .i64 0, .slice none 0 0, .bool false, .bool false] 31))) := Src_rq Try.underlying23 ⟨0, [], false, false⟩ (none, 0, 0) 31
          obtain ⟨XS, hXS⟩ : ∃ XS, XS = PO.flatMap rqCells := ⟨_, rfl⟩
          obtain ⟨YS, hYS⟩ : ∃ YS, YS = rqCells (⟨0, [], false, false⟩, (none, 0, 0)) := ⟨_, rfl⟩
          have O9 : Hid ((w2.alloc (.cells #[.int .i64 0, .slice none 0 0, .bool false, .bool false] 31)).ownsRow w.heap.size 31 4 (.slice ao i co) i XS) := by
            have e := (I2.out.keep0 ((Fr.refl _ _).alloc (.cells #[.int .i64 0, .slice none 0 0, .bool false, .bool false] 31))).ro
            rw [HPO.out] at e
            rw [hXS]
            exact e
          rw [← hYS] at Y9
          have X1 : Hid (i + 1 ≤ maxLen) := by show _ ≤ _; unfold maxLen; omega
          have X2 : Hid ((i + 1) * 40 ≤ 140737488355328) := by show _ ≤ _; omega
          have X3 : Hid (w.heap.size ≤ (w2.alloc (.cells #[.int .i64 0, .slice none 0 0, .bool false, .bool false] 31)).heap.size) := by show _ ≤ _; have := F2.size; simp; omega
          have HXY := Lib.hid (And.intro hXS hYS)
          clear hXS hYS
          go_wp2_with (at_builtin; refine wpList_append_srcN _ rfl _ _ 23 23 rfl w.heap.size 31 i0 (.agg #[.int .i64 0, .slice none 0 0, .bool false, .bool false]) 4 40 Try.underlying23 hi0 hz0 hz1 hz2 rfl ao i co XS rfl O9.out _ 1 YS rfl Y9.out X1.out X2.out X3.out ?_)
          intro a9 c9 w9 ho9 hg9 ha9
          have I9 : Hid (RxI 5 22 31 1 (id : Bs → Bs) bsCells w9 w.heap.size a9 c9 (PO ++ [(⟨0, [], false, false⟩, (none, 0, 0))]) a1 c1 P1 a2 c2 P2) := I2.out.pushO ((Fr.refl _ _).alloc _) (⟨0, [], false, false⟩, (none, 0, 0)) (Sb.nil 5 _) (by decide) (by decide) (by rw [HPO.out, ← HXY.out.1, ← HXY.out.2]; exact ho9) (by rw [HPO.out]; exact hg9)
          have F9 : Hid (Fr [] w w9) := (F2.alloc _).via (grownRw hg9) (fun q hq => (row_tag I2.out.ro q hq).1)
          clear ho9 hg9 ha9 O9 Y9 X1 X2 X3 r0 r1 r2 r3
          have e8 : goH r o (rs, all, saved) ⟨k, att, pick, data⟩ = (rs ++ [⟨0, [], false, false⟩], (P1).map (·.1), (P2).map (·.1)) := by
            unfold goH stepH
            rw [HM.out]
            simp [HS0.out, HST.out.2.2.1, HST.out.2.2.2]
          have HE8 := Lib.hid e8
          clear e8
          go_wp2_with fail
          refine ⟨⟨i + 1, a9, c9, PO ++ [_], a1, c1, P1, a2, c2, P2, by omega, by simp, rfl, by simp [HQ2.out], by simp [HQ1.out], I9.out, by simp [HPO.out], ?_, ?_, ?_, F9.out⟩, by simp [intOf]; omega⟩
          all_goals rw [HE7.out, runS_snoc, HST.out.1, HE8.out]
          simp [HST.out.2.1]
        · have hz : (0 : Int) < (q2 : Int) := by omega
          have hs0 : Hid (¬ saved.length = 0) := by show ¬ _; rw [← HST.out.2.2.2, List.length_map, HQ2.out]; exact h0
          obtain ⟨g1, hg1, hc1, hm1, s0, hs0, hs1, hs2⟩ := row_cell (cel := bsCells) (sz := 1) (fun _ => rfl) I2.out.r1 rfl (show t < P1.length by rw [HQ1.out]; exact htl)
          subst hg1
          rw [HQ1.out] at hc1
          unfold maxLen at hm1
          obtain ⟨sw, av, nv, cv⟩ := s0
          have k0 : w2.cell? ⟨g1, t, none⟩ = some (.slice av nv cv) := by
            have e := (hs2 0 (by decide)).1
            rw [Nat.mul_one, Nat.add_zero] at e
            exact e
          have z0 : w2.frozen? ⟨g1, t, none⟩ = false := by
            have e := (hs2 0 (by decide)).2
            rw [Nat.mul_one, Nat.add_zero] at e
            exact e
          have SB : Hid (Sb 5 w2 (av, nv, cv) sw) := I2.out.s1 _ hs0
          have hgd : all.getD t [] = sw := by
            rw [← HST.out.2.2.1, List.getD_eq_getElem?_getD, List.getElem?_map, hs1]
            rfl
          have hsl := SB.out.sl.len
          have hbd := HLE.out.1.getD t
          rw [hgd] at hbd
          simp only at hsl hbd
          have HGD : Hid (all[t]?.getD [] = sw) := by show _ = _; rw [← List.getD_eq_getElem?_getD]; exact hgd
          have HS1 := Lib.hid hs1
          have htI : (t : Int) < (q1 : Int) := by omega
          have hg1r : g1 ≠ gr := fun e => by
            obtain ⟨_, _, c', f', e'⟩ := row_tag I2.out.r1 g1 (mem_blkOf.2 ⟨_, rfl, rfl⟩)
            rw [e] at e'
            have := tag_ne B2.out e'
            exact absurd this (by decide)
          have hg1a : g1 ≠ ga := fun e => by
            obtain ⟨_, _, c', f', e'⟩ := row_tag I2.out.r1 g1 (mem_blkOf.2 ⟨_, rfl, rfl⟩)
            rw [e] at e'
            have := tag_ne A2.out e'
            exact absurd this (by decide)
          clear hs0 hs1 hs2 hgd
          obtain ⟨u, hu⟩ : ∃ u, u = ix pick q2 := ⟨_, rfl⟩
          have hul : u < q2 := by rw [hu]; exact ix_lt _ _ (by omega)
          have HUM : Hid (pick % (q2 : Int) = (u : Int)) := by rw [hu]; exact ix_int _ _ (by omega)
          have HU : Hid (ix pick saved.length = u) := by show _ = _; rw [hu, ← HST.out.2.2.2, List.length_map, HQ2.out]
          clear hu
          obtain ⟨g2, hg2, hd1, hd2, s9, hs9, ht9, hc9⟩ := row_cell (cel := bsCells) (sz := 1) (fun _ => rfl) I2.out.r2 rfl (show u < P2.length by rw [HQ2.out]; exact hul)
          subst hg2
          rw [HQ2.out] at hd1
          unfold maxLen at hd2
          obtain ⟨sw2, av2, nv2, cv2⟩ := s9
          have l0 : w2.cell? ⟨g2, u, none⟩ = some (.slice av2 nv2 cv2) := by
            have e := (hc9 0 (by decide)).1
            rw [Nat.mul_one, Nat.add_zero] at e
            exact e
          have SB2 : Hid (Sb 5 w2 (av2, nv2, cv2) sw2) := I2.out.s2 _ hs9
          have hsl2 := SB2.out.sl.len
          have hgd2 : saved.getD u [] = sw2 := by
            rw [← HST.out.2.2.2, List.getD_eq_getElem?_getD, List.getElem?_map, ht9]
            rfl
          have hbd2 := HLE.out.2.getD u
          rw [hgd2] at hbd2
          simp only at hsl2 hbd2
          have HGD2 : Hid (saved[u]?.getD [] = sw2) := by show _ = _; rw [← List.getD_eq_getElem?_getD]; exact hgd2
          have v2 : w2.cell? ⟨ga, 2, none⟩ = some (.int .i64 pick) := by rw [cell_of A2.out]; rfl
          have huI : (u : Int) < (q2 : Int) := by omega
          clear hs9 ht9 hc9 h0 hgd2
          go_wp2_with fail
          refine (mod_nat pick (q2 : Int) u _ (by omega) (by omega) HUM.out).mono ?_
          rintro e wz ⟨rfl, hwz⟩
          obtain rfl := hwz.symm
          go_wp2_with fail
          refine (sown_n av2 nv2 cv2 sw2 _ SB2.out.sl (by omega)).mono ?_
          rintro e w3 ⟨a3, c3, rfl, O3, f3⟩
          have I3 := Lib.hid (I2.out.keep0 f3)
          have F3 := F2.trans f3
          have B3 := Lib.hid (f3.obj B2.out (by simp))
          have A3 := Lib.hid (f3.obj A2.out (by simp))
          have SB3 := Lib.hid (O3.sb hsl2)
          clear O3 k0 z0 l0 v2
          obtain ⟨cur, hcur, hcs⟩ := I3.out.cur1
          rw [HQ1.out] at hcs
          have HCU := Lib.hid hcur
          have hcz : t + 1 ≤ cur.size := by omega
          obtain ⟨new, hnew⟩ : ∃ new, (cur.toList.take (t * 1 + 0) ++ ([.slice a3 nv2 c3] : List Value) ++ cur.toList.drop (t * 1 + 0 + ([.slice a3 nv2 c3] : List Value).length)).toArray = new := ⟨_, rfl⟩
          have HNW := Lib.hid hnew
          clear hcur hcs hnew
          go_wp2_with (refine wpList_store_at rfl _ _ _ rfl g1 t rfl 22 (.slice a3 nv2 c3) ([.slice a3 nv2 c3] : List Value) cur new rfl rfl HCU.out hcz (by intro u hu; simp only [List.mem_cons, List.not_mem_nil, or_false] at hu; subst hu; rfl) sizeU1 (by have e := HNW.out; rw [Nat.mul_one, Nat.add_zero] at e; exact e) ?_; refine Hid.out ?_)
          show wpList _ _ _ _ _ _
          have I5 := Lib.hid (I3.out.store1 (fun _ => rfl) HCU.out t 0 ([.slice a3 nv2 c3] : List Value) (by simp) _ (sw2, (a3, nv2, c3)) HS1.out rfl SB3.out (by decide) (by decide) new HNW.out)
          have f5 : Fr [g1] w3 (w3.setRow g1 new) := (Fr.refl _ _).setRow _ _ (.inr (by simp))
          have tg5 := (row_tag I3.out.r1 g1 (mem_blkOf.2 ⟨_, rfl, rfl⟩)).1
          have F5 : Fr [] w (w3.setRow g1 new) := F3.via f5 (fun q hq => by simp only [List.mem_cons, List.not_mem_nil, or_false] at hq; rw [hq]; exact tg5)
          have B5 := Lib.hid (f5.obj B3.out (by simp only [List.mem_cons, List.not_mem_nil, or_false]; exact fun e => hg1r e.symm))
          have A5 := Lib.hid (f5.obj A3.out (by simp only [List.mem_cons, List.not_mem_nil, or_false]; exact fun e => hg1a e.symm))
          generalize w3.setRow g1 new = w5 at I5 f5 F5 B5 A5 ⊢
          go_wp2_with (refine wpList_store_at rfl _ _ _ rfl gr 2 rfl 31 (.bool true) [.bool true] #[.int .i64 0, .slice none 0 0, .bool false, .bool false] #[.int .i64 0, .slice none 0 0, .bool true, .bool false] rfl rfl B5.out (by simp) (by intro u hu; simp only [List.mem_cons, List.not_mem_nil, or_false] at hu; subst hu; rfl) sizeB1 rfl ?_; refine Hid.out ?_)
          show wpList _ _ _ _ _ _
          have B7 := Lib.hid (setRow_heap _ _ _ (#[.int .i64 0, .slice none 0 0, .bool true, .bool false] : Array Value) _ _ B5.out)
          have f7 : Fr [gr] w5 (w5.setRow gr #[.int .i64 0, .slice none 0 0, .bool true, .bool false]) := (Fr.refl _ _).setRow _ _ (.inr (by simp))
          have I7 := Lib.hid (I5.out.keepR f7 B5.out HGR.out (by decide) (by decide))
          have F7 : Fr [] w (w5.setRow gr #[.int .i64 0, .slice none 0 0, .bool true, .bool false]) := F5.via f7 (fun q hq => by simp only [List.mem_cons, List.not_mem_nil, or_false] at hq; rw [hq]; exact HGB.out)
          generalize w5.setRow gr #[.int .i64 0, .slice none 0 0, .bool true, .bool false] = w7 at B7 f7 I7 F7 ⊢
          have r0 : w7.cell? ⟨gr, 0, none⟩ = some (.int .i64 0) := by rw [cell_of B7.out]; rfl
          have r1 : w7.cell? ⟨gr, 1, none⟩ = some (.slice none 0 0) := by rw [cell_of B7.out]; rfl
          have r2 : w7.cell? ⟨gr, 2, none⟩ = some (.bool true) := by rw [cell_of B7.out]; rfl
          have r3 : w7.cell? ⟨gr, 3, none⟩ = some (.bool false) := by rw [cell_of B7.out]; rfl
          have Y9 : Hid (Src Try.prog 4 23 (.slice (some ⟨w7.heap.size, 0, none⟩) 1 1) 1 (rqCells (⟨0, [], true, false⟩, (none, 0, 0))) (w7.alloc (.cells #[.int .i64 0, .slice none 0 0, .bool true, .bool false] 31))) := Src_rq Try.underlying23 ⟨0, [], true, false⟩ (none, 0, 0) 31
          obtain ⟨XS, hXS⟩ : ∃ XS, XS = PO.flatMap rqCells := ⟨_, rfl⟩
          obtain ⟨YS, hYS⟩ : ∃ YS, YS = rqCells (⟨0, [], true, false⟩, (none, 0, 0)) := ⟨_, rfl⟩
          have O9 : Hid ((w7.alloc (.cells #[.int .i64 0, .slice none 0 0, .bool true, .bool false] 31)).ownsRow w.heap.size 31 4 (.slice ao i co) i XS) := by
            have e := (I7.out.keep0 ((Fr.refl _ _).alloc (.cells #[.int .i64 0, .slice none 0 0, .bool true, .bool false] 31))).ro
            rw [HPO.out] at e
            rw [hXS]
            exact e
          rw [← hYS] at Y9
          have X1 : Hid (i + 1 ≤ maxLen) := by show _ ≤ _; unfold maxLen; omega
          have X2 : Hid ((i + 1) * 40 ≤ 140737488355328) := by show _ ≤ _; omega
          have X3 : Hid (w.heap.size ≤ (w7.alloc (.cells #[.int .i64 0, .slice none 0 0, .bool true, .bool false] 31)).heap.size) := by show _ ≤ _; have := F7.size; simp; omega
          have HXY := Lib.hid (And.intro hXS hYS)
          clear hXS hYS
          go_wp2_with (at_builtin; refine wpList_append_srcN _ rfl _ _ 23 23 rfl w.heap.size 31 i0 (.agg #[.int .i64 0, .slice none 0 0, .bool false, .bool false]) 4 40 Try.underlying23 hi0 hz0 hz1 hz2 rfl ao i co XS rfl O9.out _ 1 YS rfl Y9.out X1.out X2.out X3.out ?_)
          intro a9 c9 w9 ho9 hg9 ha9
          have I9 : Hid (RxI 5 22 31 1 (id : Bs → Bs) bsCells w9 w.heap.size a9 c9 (PO ++ [(⟨0, [], true, false⟩, (none, 0, 0))]) (some ⟨g1, 0, none⟩) c1 (P1.set t ((sw2, (a3, nv2, c3)) : Bs × V3)) (some ⟨g2, 0, none⟩) c2 P2) := I7.out.pushO ((Fr.refl _ _).alloc _) (⟨0, [], true, false⟩, (none, 0, 0)) (Sb.nil 5 _) (by decide) (by decide) (by rw [HPO.out, ← HXY.out.1, ← HXY.out.2]; exact ho9) (by rw [HPO.out]; exact hg9)
          have F9 : Hid (Fr [] w w9) := (F7.alloc _).via (grownRw hg9) (fun q hq => (row_tag I7.out.ro q hq).1)
          clear ho9 hg9 ha9 O9 Y9 X1 X2 X3 r0 r1 r2 r3
          have e8 : goH r o (rs, all, saved) ⟨k, att, pick, data⟩ = (rs ++ [⟨0, [], true, false⟩], ((P1.set t ((sw2, (a3, nv2, c3)) : Bs × V3))).map (·.1), (P2).map (·.1)) := by
            unfold goH stepH
            rw [HM.out]
            simp [List.map_set, HU.out, HGD2.out, hs0.out, HST.out.2.2.1, HST.out.2.2.2, HT.out]
          have HE8 := Lib.hid e8
          clear e8
          go_wp2_with fail
          refine ⟨⟨i + 1, a9, c9, PO ++ [_], (some ⟨g1, 0, none⟩), c1, (P1.set t ((sw2, (a3, nv2, c3)) : Bs × V3)), (some ⟨g2, 0, none⟩), c2, P2, by omega, by simp, rfl, by simp [HQ2.out], by simp [HQ1.out], I9.out, by simp [HPO.out], ?_, ?_, ?_, F9.out⟩, by simp [intOf]; omega⟩
          all_goals rw [HE7.out, runS_snoc, HST.out.1, HE8.out]
          simp [HST.out.2.1]
    · obtain rfl : i = n := by omega
      rw [List.take_of_length_le (by rw [HA.out.len]; exact Nat.le_refl _)] at hrs
      have HF := Lib.hid hf
      have HR := hI.read
      rw [hrs, hPO] at HR
      have HRR : Hid (RsR wr ao i co (runH r o xs)) := HR
      clear hf HR hI
      go_wp2_with fail
      go_ret
      exact ⟨ao, co, rfl, HRR.out, HF.out⟩
end Go.Proofs.Ytfgfhdkedmgfiaa
end
