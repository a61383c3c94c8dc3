/- A sponge's state is loaded from bytes: UnmarshalBinary. The bytes are those of a state with the same rate and domain. -/
import Derived.Test.YtjgdbamlaajkmaaMar
import Derived.Laws.BytesArg
namespace Go.Sha
open Go.RowKit
theorem mar_at4 (m : UInt8) (d : Dg) : (mar m d).getD 4 0 = UInt8.ofNat d.rate := rfl
theorem mar_at (m : UInt8) (d : Dg) (h : d.a.length = 200) (i : Nat) (hi : i < 200) : (mar m d).getD (5 + i) 0 = d.a.getD i 0 := by
  unfold mar
  simp only [List.getD_eq_getElem?_getD]
  rw [List.getElem?_append_left (by simp [h]; omega), List.getElem?_append_right (by simp)]
  simp
theorem mar_n (m : UInt8) (d : Dg) (h : d.a.length = 200) : (mar m d).getD 205 0 = UInt8.ofNat d.n := by
  unfold mar
  simp only [List.getD_eq_getElem?_getD]
  rw [List.getElem?_append_right (by simp [h])]
  simp [h]
theorem mar_st (m : UInt8) (d : Dg) (h : d.a.length = 200) : (mar m d).getD 206 0 = UInt8.ofNat d.st := by
  unfold mar
  simp only [List.getD_eq_getElem?_getD]
  rw [List.getElem?_append_right (by simp [h])]
  simp [h]
theorem Dg.setCells (d : Dg) (ext : List Value) (a' : Bs) (h : d.a.length = 200) (ha : a'.length = 200) :
    ((d.cells ++ ext).toArray.toList.take 0 ++ a'.map bv ++ (d.cells ++ ext).toArray.toList.drop (0 + 200)).toArray = (({ d with a := a' } : Dg).cells ++ ext).toArray := by
  simp only [Dg.cells, List.append_assoc, List.toList_toArray, Nat.zero_add, List.take_zero, List.nil_append]
  rw [List.drop_left' (by simp [h])]
end Go.Sha
namespace Go.Proofs.Ytjgdbamlaajkmaa
open Go.ChangeShapes Go.WideShapes Go.ChangeAt Go.RowKit Go.Sha

set_option maxRecDepth 100000 in
set_option maxHeartbeats 1600000 in
theorem unmarshal_sha (w : World) (b T : Nat) (ext : List Value) (d d0 : Dg) (g o cp : Nat) (h : DgAt w b T ext d) (hds : d.ds = 6) (hd0 : d0.a.length = 200) (hrate : d0.rate = d.rate) (hrl : d.rate ≤ 255) (hn0 : d0.n ≤ d.rate) (hst0 : d0.st = 0 ∨ d0.st = 1) (hS : Sl w (some ⟨g, o, none⟩) 207 cp (mar 8 d0)) (hgb : g ≠ b) :
    Calls Try.prog 62 #[.pointer (some ⟨b, 0, none⟩), .slice (some ⟨g, o, none⟩) 207 cp] w (RetD .nilIface b T ext { d with a := d0.a, n := d0.n, st := d0.st } w) := by
  obtain ⟨i0, hi, hz0, hz1, hz2⟩ := info_parts info5
  have hcp := hS.cap
  have hmx := hS.max
  unfold maxLen at hmx
  have hcel : ∀ i, i < 207 → w.cell? ⟨g, o + i, none⟩ = some (.int .u8 ((mar 8 d0).getD i 0).toNat) := by
    rcases hS.cel with h0 | ⟨b', o', hb', hc⟩
    · omega
    · simp only [Option.some.injEq, Addr.mk.injEq] at hb'
      obtain ⟨rfl, rfl, _⟩ := hb'
      exact hc
  clear hS
  have HC := Lib.hid hcel
  clear hcel
  have hcv := run_convert_bytes_arg (P := Try.prog) w 22 5 Try.underlying22 Try.underlying5 g o 4 cp [115, 104, 97, 8] rfl (fun i hi => by
    rw [HC.out i (by omega)]
    obtain rfl | rfl | rfl | rfl : i = 0 ∨ i = 1 ∨ i = 2 ∨ i = 3 := by omega
    all_goals rfl) 9 Try.underlying9
  have hcv' : (convert 22 9 (.slice (some ⟨g, o, none⟩) 4 cp)).run Try.prog w = .ok (.string ⟨#[115, 104, 97, 8]⟩) w := hcv
  clear hcv
  have s8 : ((⟨#[115, 104, 97, 8]⟩ : ByteArray) == ⟨#[115, 104, 97, 8]⟩) = true := by decide
  obtain ⟨da, dn, dr, dd, dou, dst⟩ := d
  obtain ⟨ea, en, er, ed, eou, est⟩ := d0
  simp only at hds hrate hrl hn0 hst0 hd0
  subst hds hrate
  obtain ⟨ub, rfl⟩ : ∃ ub : UInt8, er = ub.toNat := ⟨UInt8.ofNat er, by rw [UInt8.toNat_ofNat']; omega⟩
  obtain ⟨un, rfl⟩ : ∃ un : UInt8, en = un.toNat := ⟨UInt8.ofNat en, by rw [UInt8.toNat_ofNat']; omega⟩
  have hub : ub.toNat < 256 := ub.toNat_lt
  have hun : un.toNat < 256 := un.toNat_lt
  have q1 : w.cell? ⟨b, 202, none⟩ = some (.int .u8 6) := h.cds
  have q2 : w.cell? ⟨b, 201, none⟩ = some (.int .i64 ub.toNat) := h.crate
  have p4 : w.cell? ⟨g, o + 4, none⟩ = some (.int .u8 ub.toNat) := by
    rw [HC.out 4 (by omega), mar_at4, UInt8.ofNat_toNat]
  have z1 : ¬ cp = 4 := by omega
  have z2 : ¬ cp - 4 = 1 := by omega
  have z3 : ¬ cp - 4 - 1 = 200 := by omega
  have HD := Lib.hid h
  have hla := h.1
  simp only at hla
  clear h
  have HE := Lib.hid hd0
  clear hd0
  have HST := Lib.hid hst0
  clear hst0
  have hcopy := run_copy_bytes (P := Try.prog) (w := w) (ty := 3) (tx := 22) (g := b) (o := 0) (m := 200) (c := 200) (b := g) (n := o + 4 + 1) (q := 202) (c2 := cp - 4 - 1) (k := 200) (l := ea) Try.underlying22 hi hz1 HD.out.2 rfl (by rw [List.size_toArray, List.length_append, Dg.cells_length _ hla]; omega) HE.out (fun i hi => by
    rw [show o + 4 + 1 + i = o + (5 + i) by omega, HC.out (5 + i) (by omega), mar_at _ _ HE.out i hi])
  rw [Dg.setCells _ ext ea hla HE.out] at hcopy
  have HCP := Lib.hid hcopy
  clear hcopy
  go_enter Try.func62, Try.ntmps62
  go_wp2_with (refine wpList_copy_run (vs := .slice (some ⟨b, 0, none⟩) 200 200) (vx := .slice (some ⟨g, o + 4 + 1, none⟩) 202 (cp - 4 - 1)) rfl _ _ 22 22 rfl rfl rfl HCP.out ?_; refine Hid.out ?_)
  show wpList _ _ _ _ _ _
  have D1 : DgAt (w.setRow b (({ a := ea, n := dn, rate := ub.toNat, ds := 6, out := dou, st := dst : Dg }).cells ++ ext).toArray) b T ext { a := ea, n := dn, rate := ub.toNat, ds := 6, out := dou, st := dst } := ⟨HE.out, setRow_heap _ _ _ _ _ _ HD.out.2⟩
  have f1 : Fr [b] w (w.setRow b (({ a := ea, n := dn, rate := ub.toNat, ds := 6, out := dou, st := dst : Dg }).cells ++ ext).toArray) := (Fr.refl _ _).setRow _ _ (.inr (by simp))
  generalize w.setRow b (({ a := ea, n := dn, rate := ub.toNat, ds := 6, out := dou, st := dst : Dg }).cells ++ ext).toArray = w1 at D1 f1 ⊢
  have p5 : w1.cell? ⟨g, o + 4 + 1 + 200, none⟩ = some (.int .u8 un.toNat) := f1.cell (by rw [show o + 4 + 1 + 200 = o + 205 by omega, HC.out 205 (by omega), mar_n _ _ HE.out, UInt8.ofNat_toNat]) (by simpa using hgb)
  obtain ⟨us, hus, hus2⟩ : ∃ us : UInt8, us.toNat = est ∧ (us.toNat = 0 ∨ us.toNat = 1) := ⟨UInt8.ofNat est, by rw [UInt8.toNat_ofNat']; rcases HST.out with e | e <;> omega, by rw [UInt8.toNat_ofNat']; rcases HST.out with e | e <;> omega⟩
  have p6 : w1.cell? ⟨g, o + 4 + 1 + 200 + 1, none⟩ = some (.int .u8 us.toNat) := f1.cell (by rw [show o + 4 + 1 + 200 + 1 = o + 206 by omega, HC.out 206 (by omega), mar_st _ _ HE.out, hus, ← hus, UInt8.ofNat_toNat]) (by simpa using hgb)
  have HUS := Lib.hid hus
  clear hus q1 q2 p4 HCP HC HST hcv'
  have H1 := Lib.hid D1
  have q5 := D1.crate
  have q6 := D1.cn
  have q7 := D1.fz 200
  simp only at q5 q6
  have hnn : ¬ (ub.toNat : Int) < (un.toNat : Int) := by omega
  have q8 := D1.cst
  have q9 := D1.fz 204
  simp only at q8
  have D2 := D1.setN un.toNat
  have D3 := D2.setSt us.toNat
  have H3 := Lib.hid D3
  clear D1 D2 D3
  generalize hu : us.toNat = u at p6 H3 HUS hus2
  clear hu
  go_wp2_with fail
  go_quiet (fail)
  rcases hus2 with rfl | rfl
  all_goals
    go_wp2_with fail
    go_ret
    refine ⟨rfl, ?_, ?_⟩
    · rw [← HUS.out]
      exact H3.out
    · exact ((f1.drewN _).setCell _ _ (.inr (by simp))).setCell _ _ (.inr (by simp))

end Go.Proofs.Ytjgdbamlaajkmaa
