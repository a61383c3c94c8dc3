/- SumSHAKE128 and SumSHAKE256 of the library hand back output of a sponge in new memory. Lengths below 2^40. -/
import Derived.Test.YthlknckmhjnkjaaNew
import Derived.Test.YthlknckmhjnkjaaOwn
namespace Go.Sha
open Go.RowKit
/-- the first bytes of output for bytes that were written -/
def xof (rate out : Nat) (ds : UInt8) (data : Bs) (k : Nat) : Bs := (squeeze k (padD (absorb (newD rate out ds) data))).1
theorem xof_length (rate out : Nat) (ds : UInt8) (data : Bs) (k : Nat) : (xof rate out ds data k).length = k := squeeze_length _ _
theorem Ow.of_splice {w : World} {g e c : Nat} {cur : Array Value} {l : Bs} (base : Nat) (hb : base ≤ g) (h : w.heap[g]? = some (.cells (splice cur 0 l) e (0, 0))) (hc : cur.size = c) (hl : l.length ≤ c) (hm : c ≤ maxLen) : Ow w base e (some ⟨g, 0, none⟩) c l := by
  refine ⟨by simp, .inr ⟨g, c, _, rfl, hb, h, hl, hm, by rw [splice_size _ _ _ (by omega)]; omega, ?_⟩⟩
  simp [splice]
end Go.Sha
namespace Go.Proofs.Ythlknckmhjnkjaa
open Go.ChangeShapes Go.WideShapes Go.ChangeAt Go.RowKit Go.Sha

/-- L bytes of output in a slice of one's own -/
def RetX (base L : Nat) (l : Bs) (S : List Nat) (w : World) (e : Ending) (w' : World) : Prop := ∃ a c, e = .returned (.slice a L c) ∧ Ow w' base 5 a c l ∧ Fr S w w'

set_option maxHeartbeats 800000 in
theorem sumSHAKE128_any (w : World) (g : Nat) (cur : Array Value) (hg : w.heap[g]? = some (.cells cur 5 (0, 0))) (hq : cur.size = 32) (ad : Option Addr) (nd cd : Nat) (data : Bs) (hS : Sl w ad nd cd data) (L : Nat) (hL : L ≤ 1099511627776) (base : Nat) (hbg : base ≤ g) (hbw : base ≤ w.heap.size) :
    Calls Try.prog 38 #[.slice (some ⟨g, 0, none⟩) 32 32, .slice ad nd cd, .int .i64 (L : Int)] w (RetX base L (xof 168 32 31 data L) [g] w) := by
  have G0 := Lib.hid hg
  have hgw : g < w.heap.size := (Array.getElem?_eq_some_iff.1 hg).1
  clear hg
  by_cases hlt : 32 < L
  · have h1 : decide ((32 : Int) < (L : Int)) = true := by simp; omega
    have hmk := make_bytes L (by omega)
    go_enter Try.func38, Try.ntmps38
    go_wp2_with fail
    clear hmk
    have f1 : Fr [] w (w.alloc (.cells (madeCells #[.int .u8 0] L) 5)) := (Fr.refl _ _).alloc _
    obtain ⟨CUR, hCS, G1⟩ : ∃ CUR : Array Value, CUR.size = L ∧ Hid ((w.alloc (.cells (madeCells #[.int .u8 0] L) 5)).heap[w.heap.size]? = some (.cells CUR 5 (0, 0))) := ⟨_, size_madeCells _ _, Go.heap_alloc_new w _⟩
    have hGG : w.heap.size < (w.alloc (.cells (madeCells #[.int .u8 0] L) 5)).heap.size := by simp
    generalize w.alloc (.cells (madeCells #[.int .u8 0] L) 5) = w1 at f1 G1 hGG ⊢
    have hbase : base ≤ w.heap.size := hbw
    refine (NewShake128_any w1).mono ?_
    rintro e w2 ⟨rfl, D2, f2, hz2⟩
    have hbG : w1.heap.size ≠ w.heap.size := by omega
    have S2 := (hS.keep0 f1).keep0 f2
    have hne : ∀ x, ad = some x → nd ≠ 0 → x.block ≠ w1.heap.size := fun x hx hn => by
      have h1 := hS.lt hx hn
      have h2 := f1.size
      omega
    have hbw1 : w.heap.size ≤ w1.heap.size := f1.size
    have G2 : Hid (w2.heap[w.heap.size]? = some (.cells CUR 5 (0, 0))) := f2.obj G1.out (by simp)
    have F2 := f1.trans f2
    clear f1 f2 G1 hz2
    generalize w1.heap.size = b at D2 hbG hne hbw1 ⊢
    go_wp2_with fail
    refine (ShakeWrite_any _ _ _ _ _ _ _ _ data D2 (newD_ok _ _ _ (by decide) (by decide)) rfl S2 hne).mono ?_
    rintro e w3 ⟨rfl, D3, f3⟩
    have G3 : Hid (w3.heap[w.heap.size]? = some (.cells CUR 5 (0, 0))) := f3.obj G2.out (by simpa using hbG.symm)
    have hok := absorb_ok (newD_ok 168 32 31 (by decide) (by decide)) data
    have hok1 := hok.1
    have HO := Lib.hid hok.2
    clear hok
    go_wp2_with fail
    refine (ShakeRead_abs w3 b _ _ _ (w.heap.size) 0 L (L) 5 CUR D3 hok1 (by rw [HO.out.2.2.2]; rfl) G3.out hbG (by omega) (by omega) (by omega)).mono ?_
    rintro e w4 ⟨rfl, D4, g4, f4⟩
    have G4 := Lib.hid g4
    clear g4
    go_wp2_with fail
    go_ret
    refine ⟨_, _, rfl, Ow.of_splice base hbase G4.out hCS (by rw [xof_length]; omega) (by unfold maxLen; omega), ?_⟩
    have e1 : Fr [b, w.heap.size] w w4 := (F2.mono (by simp)).trans ((f3.two).trans f4)
    exact e1.mono (fun k hk hk2 => by simp at hk2 ⊢; omega)
  · have h1 : decide ((32 : Int) < (L : Int)) = false := by simp; omega
    have hLq : L ≤ 32 := by omega
    go_enter Try.func38, Try.ntmps38
    go_wp2_with fail
    obtain ⟨w1, hw1⟩ : ∃ w1, w1 = w := ⟨w, rfl⟩
    have f1 : Fr [] w w1 := by rw [hw1]; exact Fr.refl _ _
    obtain ⟨CUR, hCS, G1⟩ : ∃ CUR : Array Value, CUR.size = 32 ∧ Hid (w1.heap[g]? = some (.cells CUR 5 (0, 0))) := ⟨cur, hq, by rw [hw1]; exact G0⟩
    have hGG : g < w1.heap.size := by rw [hw1]; exact hgw
    rw [← hw1]
    have HW1 := Lib.hid hw1
    clear hw1
    have hbase := hbg
    refine (NewShake128_any w1).mono ?_
    rintro e w2 ⟨rfl, D2, f2, hz2⟩
    have hbG : w1.heap.size ≠ g := by omega
    have S2 := (hS.keep0 f1).keep0 f2
    have hne : ∀ x, ad = some x → nd ≠ 0 → x.block ≠ w1.heap.size := fun x hx hn => by
      have h1 := hS.lt hx hn
      have h2 := f1.size
      omega
    have hbw1 : w.heap.size ≤ w1.heap.size := f1.size
    have G2 : Hid (w2.heap[g]? = some (.cells CUR 5 (0, 0))) := f2.obj G1.out (by simp)
    have F2 := f1.trans f2
    clear f1 f2 G1 hz2
    generalize w1.heap.size = b at D2 hbG hne hbw1 ⊢
    go_wp2_with fail
    refine (ShakeWrite_any _ _ _ _ _ _ _ _ data D2 (newD_ok _ _ _ (by decide) (by decide)) rfl S2 hne).mono ?_
    rintro e w3 ⟨rfl, D3, f3⟩
    have G3 : Hid (w3.heap[g]? = some (.cells CUR 5 (0, 0))) := f3.obj G2.out (by simpa using hbG.symm)
    have hok := absorb_ok (newD_ok 168 32 31 (by decide) (by decide)) data
    have hok1 := hok.1
    have HO := Lib.hid hok.2
    clear hok
    go_wp2_with fail
    refine (ShakeRead_abs w3 b _ _ _ (g) 0 L (32) 5 CUR D3 hok1 (by rw [HO.out.2.2.2]; rfl) G3.out hbG (by omega) (by omega) (by omega)).mono ?_
    rintro e w4 ⟨rfl, D4, g4, f4⟩
    have G4 := Lib.hid g4
    clear g4
    go_wp2_with fail
    go_ret
    refine ⟨_, _, rfl, Ow.of_splice base hbase G4.out hCS (by rw [xof_length]; omega) (by unfold maxLen; omega), ?_⟩
    have e1 : Fr [b, g] w w4 := (F2.mono (by simp)).trans ((f3.two).trans f4)
    exact e1.mono (fun k hk hk2 => by simp at hk2 ⊢; omega)

theorem libSHAKE128_any (w : World) (ad : Option Addr) (nd cd : Nat) (data : Bs) (hS : Sl w ad nd cd data) (L : Nat) (hL : L ≤ 1099511627776) :
    Calls Try.prog 29 #[.slice ad nd cd, .int .i64 (L : Int)] w (RetX w.heap.size L (xof 168 32 31 data L) [] w) := by
  have hmk := make_lit 32 32 rfl (by omega)
  go_enter Try.func29, Try.ntmps29
  go_wp2_with fail
  clear hmk
  have f1 : Fr [] w (w.alloc (.cells (madeCells #[.int .u8 0] 32) 5)) := (Fr.refl _ _).alloc _
  have hsz : w.heap.size ≤ (w.alloc (.cells (madeCells #[.int .u8 0] 32) 5)).heap.size := by simp
  have G1 := Lib.hid (Go.heap_alloc_new w (.cells (madeCells #[.int .u8 0] 32) 5))
  refine (sumSHAKE128_any _ w.heap.size _ G1.out (size_madeCells _ _) ad nd cd data (hS.keep0 f1) L hL w.heap.size (Nat.le_refl _) hsz).mono ?_
  rintro e w2 ⟨a, c, rfl, o2, f2⟩
  go_wp2_with fail
  go_ret
  refine ⟨a, c, rfl, o2, ?_⟩
  exact ((f1.mono (by simp)).trans f2 : Fr [w.heap.size] w w2).mono (fun k hk hk2 => by simp at hk2; omega)

theorem implSHAKE128_any (w : World) (ad : Option Addr) (nd cd : Nat) (data : Bs) (hS : Sl w ad nd cd data) (L : Nat) (hL : L ≤ 1099511627776) :
    Calls Try.prog 12 #[.slice ad nd cd, .int .i64 (L : Int)] w (RetX w.heap.size L (xof 168 32 31 data L) [] w) := by
  go_enter Try.func12, Try.ntmps12
  go_wp2_with fail
  refine (libSHAKE128_any w ad nd cd data hS L hL).mono ?_
  rintro e w2 ⟨a, c, rfl, o2, f2⟩
  go_wp2_with fail
  go_ret
  exact ⟨a, c, rfl, o2, f2⟩

set_option maxHeartbeats 800000 in
theorem sumSHAKE256_any (w : World) (g : Nat) (cur : Array Value) (hg : w.heap[g]? = some (.cells cur 5 (0, 0))) (hq : cur.size = 64) (ad : Option Addr) (nd cd : Nat) (data : Bs) (hS : Sl w ad nd cd data) (L : Nat) (hL : L ≤ 1099511627776) (base : Nat) (hbg : base ≤ g) (hbw : base ≤ w.heap.size) :
    Calls Try.prog 40 #[.slice (some ⟨g, 0, none⟩) 64 64, .slice ad nd cd, .int .i64 (L : Int)] w (RetX base L (xof 136 64 31 data L) [g] w) := by
  have G0 := Lib.hid hg
  have hgw : g < w.heap.size := (Array.getElem?_eq_some_iff.1 hg).1
  clear hg
  by_cases hlt : 64 < L
  · have h1 : decide ((64 : Int) < (L : Int)) = true := by simp; omega
    have hmk := make_bytes L (by omega)
    go_enter Try.func40, Try.ntmps40
    go_wp2_with fail
    clear hmk
    have f1 : Fr [] w (w.alloc (.cells (madeCells #[.int .u8 0] L) 5)) := (Fr.refl _ _).alloc _
    obtain ⟨CUR, hCS, G1⟩ : ∃ CUR : Array Value, CUR.size = L ∧ Hid ((w.alloc (.cells (madeCells #[.int .u8 0] L) 5)).heap[w.heap.size]? = some (.cells CUR 5 (0, 0))) := ⟨_, size_madeCells _ _, Go.heap_alloc_new w _⟩
    have hGG : w.heap.size < (w.alloc (.cells (madeCells #[.int .u8 0] L) 5)).heap.size := by simp
    generalize w.alloc (.cells (madeCells #[.int .u8 0] L) 5) = w1 at f1 G1 hGG ⊢
    have hbase : base ≤ w.heap.size := hbw
    refine (NewShake256_any w1).mono ?_
    rintro e w2 ⟨rfl, D2, f2, hz2⟩
    have hbG : w1.heap.size ≠ w.heap.size := by omega
    have S2 := (hS.keep0 f1).keep0 f2
    have hne : ∀ x, ad = some x → nd ≠ 0 → x.block ≠ w1.heap.size := fun x hx hn => by
      have h1 := hS.lt hx hn
      have h2 := f1.size
      omega
    have hbw1 : w.heap.size ≤ w1.heap.size := f1.size
    have G2 : Hid (w2.heap[w.heap.size]? = some (.cells CUR 5 (0, 0))) := f2.obj G1.out (by simp)
    have F2 := f1.trans f2
    clear f1 f2 G1 hz2
    generalize w1.heap.size = b at D2 hbG hne hbw1 ⊢
    go_wp2_with fail
    refine (ShakeWrite_any _ _ _ _ _ _ _ _ data D2 (newD_ok _ _ _ (by decide) (by decide)) rfl S2 hne).mono ?_
    rintro e w3 ⟨rfl, D3, f3⟩
    have G3 : Hid (w3.heap[w.heap.size]? = some (.cells CUR 5 (0, 0))) := f3.obj G2.out (by simpa using hbG.symm)
    have hok := absorb_ok (newD_ok 136 64 31 (by decide) (by decide)) data
    have hok1 := hok.1
    have HO := Lib.hid hok.2
    clear hok
    go_wp2_with fail
    refine (ShakeRead_abs w3 b _ _ _ (w.heap.size) 0 L (L) 5 CUR D3 hok1 (by rw [HO.out.2.2.2]; rfl) G3.out hbG (by omega) (by omega) (by omega)).mono ?_
    rintro e w4 ⟨rfl, D4, g4, f4⟩
    have G4 := Lib.hid g4
    clear g4
    go_wp2_with fail
    go_ret
    refine ⟨_, _, rfl, Ow.of_splice base hbase G4.out hCS (by rw [xof_length]; omega) (by unfold maxLen; omega), ?_⟩
    have e1 : Fr [b, w.heap.size] w w4 := (F2.mono (by simp)).trans ((f3.two).trans f4)
    exact e1.mono (fun k hk hk2 => by simp at hk2 ⊢; omega)
  · have h1 : decide ((64 : Int) < (L : Int)) = false := by simp; omega
    have hLq : L ≤ 64 := by omega
    go_enter Try.func40, Try.ntmps40
    go_wp2_with fail
    obtain ⟨w1, hw1⟩ : ∃ w1, w1 = w := ⟨w, rfl⟩
    have f1 : Fr [] w w1 := by rw [hw1]; exact Fr.refl _ _
    obtain ⟨CUR, hCS, G1⟩ : ∃ CUR : Array Value, CUR.size = 64 ∧ Hid (w1.heap[g]? = some (.cells CUR 5 (0, 0))) := ⟨cur, hq, by rw [hw1]; exact G0⟩
    have hGG : g < w1.heap.size := by rw [hw1]; exact hgw
    rw [← hw1]
    have HW1 := Lib.hid hw1
    clear hw1
    have hbase := hbg
    refine (NewShake256_any w1).mono ?_
    rintro e w2 ⟨rfl, D2, f2, hz2⟩
    have hbG : w1.heap.size ≠ g := by omega
    have S2 := (hS.keep0 f1).keep0 f2
    have hne : ∀ x, ad = some x → nd ≠ 0 → x.block ≠ w1.heap.size := fun x hx hn => by
      have h1 := hS.lt hx hn
      have h2 := f1.size
      omega
    have hbw1 : w.heap.size ≤ w1.heap.size := f1.size
    have G2 : Hid (w2.heap[g]? = some (.cells CUR 5 (0, 0))) := f2.obj G1.out (by simp)
    have F2 := f1.trans f2
    clear f1 f2 G1 hz2
    generalize w1.heap.size = b at D2 hbG hne hbw1 ⊢
    go_wp2_with fail
    refine (ShakeWrite_any _ _ _ _ _ _ _ _ data D2 (newD_ok _ _ _ (by decide) (by decide)) rfl S2 hne).mono ?_
    rintro e w3 ⟨rfl, D3, f3⟩
    have G3 : Hid (w3.heap[g]? = some (.cells CUR 5 (0, 0))) := f3.obj G2.out (by simpa using hbG.symm)
    have hok := absorb_ok (newD_ok 136 64 31 (by decide) (by decide)) data
    have hok1 := hok.1
    have HO := Lib.hid hok.2
    clear hok
    go_wp2_with fail
    refine (ShakeRead_abs w3 b _ _ _ (g) 0 L (64) 5 CUR D3 hok1 (by rw [HO.out.2.2.2]; rfl) G3.out hbG (by omega) (by omega) (by omega)).mono ?_
    rintro e w4 ⟨rfl, D4, g4, f4⟩
    have G4 := Lib.hid g4
    clear g4
    go_wp2_with fail
    go_ret
    refine ⟨_, _, rfl, Ow.of_splice base hbase G4.out hCS (by rw [xof_length]; omega) (by unfold maxLen; omega), ?_⟩
    have e1 : Fr [b, g] w w4 := (F2.mono (by simp)).trans ((f3.two).trans f4)
    exact e1.mono (fun k hk hk2 => by simp at hk2 ⊢; omega)

theorem libSHAKE256_any (w : World) (ad : Option Addr) (nd cd : Nat) (data : Bs) (hS : Sl w ad nd cd data) (L : Nat) (hL : L ≤ 1099511627776) :
    Calls Try.prog 31 #[.slice ad nd cd, .int .i64 (L : Int)] w (RetX w.heap.size L (xof 136 64 31 data L) [] w) := by
  have hmk := make_lit 64 64 rfl (by omega)
  go_enter Try.func31, Try.ntmps31
  go_wp2_with fail
  clear hmk
  have f1 : Fr [] w (w.alloc (.cells (madeCells #[.int .u8 0] 64) 5)) := (Fr.refl _ _).alloc _
  have hsz : w.heap.size ≤ (w.alloc (.cells (madeCells #[.int .u8 0] 64) 5)).heap.size := by simp
  have G1 := Lib.hid (Go.heap_alloc_new w (.cells (madeCells #[.int .u8 0] 64) 5))
  refine (sumSHAKE256_any _ w.heap.size _ G1.out (size_madeCells _ _) ad nd cd data (hS.keep0 f1) L hL w.heap.size (Nat.le_refl _) hsz).mono ?_
  rintro e w2 ⟨a, c, rfl, o2, f2⟩
  go_wp2_with fail
  go_ret
  refine ⟨a, c, rfl, o2, ?_⟩
  exact ((f1.mono (by simp)).trans f2 : Fr [w.heap.size] w w2).mono (fun k hk hk2 => by simp at hk2; omega)

theorem implSHAKE256_any (w : World) (ad : Option Addr) (nd cd : Nat) (data : Bs) (hS : Sl w ad nd cd data) (L : Nat) (hL : L ≤ 1099511627776) :
    Calls Try.prog 15 #[.slice ad nd cd, .int .i64 (L : Int)] w (RetX w.heap.size L (xof 136 64 31 data L) [] w) := by
  go_enter Try.func15, Try.ntmps15
  go_wp2_with fail
  refine (libSHAKE256_any w ad nd cd data hS L hL).mono ?_
  rintro e w2 ⟨a, c, rfl, o2, f2⟩
  go_wp2_with fail
  go_ret
  exact ⟨a, c, rfl, o2, f2⟩

end Go.Proofs.Ythlknckmhjnkjaa
