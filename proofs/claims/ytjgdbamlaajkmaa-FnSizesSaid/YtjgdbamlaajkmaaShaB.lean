/- The methods of a hash of package sha3. No condition but on lengths. -/
import Derived.Test.YtjgdbamlaajkmaaSha
import Derived.Test.YtjgdbamlaajkmaaSumN
import Derived.Test.YtjgdbamlaajkmaaBounded
namespace Go.Sha
open Go.RowKit
theorem Fr.belowB {B : List Nat} {w w' : World} (h : Fr B w w') (base : Nat) (hb : base ≤ w.heap.size) (hB : ∀ x ∈ B, base ≤ x) : Below base w w' :=
  ⟨h.os, h.tape, h.output, h.size, fun k hk => h.block k (by omega) (fun hx => by have := hB k hx; omega)⟩
theorem Fr.of_belowB {w0 w w' : World} {S : List Nat} {base : Nat} (h : Fr S w0 w) (k : Below base w w') (hb : w0.heap.size ≤ base) : Fr S w0 w' :=
  ⟨k.os.trans h.os, k.tape.trans h.tape, k.output.trans h.output, Nat.le_trans h.size k.size, fun i hi hs => (k.block i (by omega)).trans (h.block i hi hs)⟩
theorem Ow.own_ge {w : World} {base e c n : Nat} {a : Option Addr} {l : Bs} (h : Ow w base e a c l) : ∀ x ∈ (Value.slice a n c).ownBlock.toList, base ≤ x := fun x hx => by
  cases a with
  | none => simp [Value.ownBlock] at hx
  | some ad =>
    have := h.block.2.2.1
    simp [Value.ownBlock] at hx
    omega
theorem DgAt.below {w w' : World} {b T base : Nat} {ext : List Value} {d : Dg} (h : DgAt w b T ext d) (k : Below base w w') (hb : b < base) : DgAt w' b T ext d := ⟨h.1, by rw [k.block b hb]; exact h.2⟩
theorem reset_eq (d : Dg) (r o : Nat) (h1 : d.rate = r) (h2 : d.ds = 6) (h3 : d.out = o) : ({ d with a := List.replicate 200 0, n := 0, st := 0 } : Dg) = newD r o 6 := by
  obtain ⟨da, dn, dr, dd, dou, dst⟩ := d
  simp only at h1 h2 h3
  subst h1 h2 h3
  rfl
theorem Below.tr {base : Nat} {a b c : World} (h : Below base a b) (k : Below base b c) : Below base a c := h.trans k
end Go.Sha
namespace Go.Proofs.Ytjgdbamlaajkmaa
open Go.ChangeShapes Go.WideShapes Go.ChangeAt Go.RowKit Go.Sha

theorem shaWrite_any (w : World) (b r o : Nat) (data : Bs) (ap : Option Addr) (np cp : Nat) (p : Bs) (hr : Rt r o) (h : HsAt w b 60 r o data) (hp : Sl w ap np cp p) (hne : ∀ x, ap = some x → np ≠ 0 → x.block ≠ b) :
    Calls Try.prog 37 #[.pointer (some ⟨b, 0, none⟩), .slice ap np cp] w (RetD (.tuple #[.int .i64 np, .nilIface]) b 60 [] (absorb (newD r o 6) (data ++ p)) w) := by
  go_enter Try.func37, Try.ntmps37
  go_wp2_with fail
  refine (init_any w b r o data hr h).mono ?_
  rintro e w1 ⟨rfl, D1, f1⟩
  have S1 := Lib.hid (hp.keep f1 (fun x hx hn => by simp; exact hne x hx hn))
  have hok := Lib.hid (hr.abs data)
  go_wp2_with fail
  refine (Write_any w1 b 60 [] _ ap np cp p D1 hok.out.1 hok.out.2.2.2.2 S1.out hne).mono ?_
  rintro e w2 ⟨rfl, D2, f2⟩
  rw [← absorb_append] at D2
  go_wp2_with fail
  go_ret2
  exact ⟨rfl, D2, f1.trans f2⟩

theorem shaSum_any (w : World) (b r o : Nat) (data : Bs) (ai : Option Addr) (ni ci base : Nat) (l : Bs) (hr : Rt r o) (h : HsAt w b 60 r o data) (hl : l.length = ni) (hO : Ow w base 5 ai ci l) (hb : base ≤ w.heap.size) (hbb : b < base) (hn : ni + 64 ≤ 140737488355328) :
    Calls Try.prog 38 #[.pointer (some ⟨b, 0, none⟩), .slice ai ni ci] w fun e w' => ∃ a c w1, e = .returned (.slice a (ni + o) c) ∧ Ow w' base 5 a c (l ++ xof r o 6 data o) ∧ DgAt w1 b 60 [] (absorb (newD r o 6) data) ∧ Fr [b] w w1 ∧ Below base w1 w' := by
  have HL := Lib.hid hl
  have HO := Lib.hid hO
  clear hl hO
  go_enter Try.func38, Try.ntmps38
  go_wp2_with fail
  refine (init_any w b r o data hr h).mono ?_
  rintro e w1 ⟨rfl, D1, f1⟩
  have hok := Lib.hid (hr.abs data)
  have O1 := Lib.hid (HO.out.keep f1 (fun k hk => by simp; omega))
  have hb1 : base ≤ w1.heap.size := Nat.le_trans hb f1.size
  go_wp2_with fail
  refine (Sum_own w1 b 60 _ ai ni ci l base D1 hok.out.1 hok.out.2.2.2.2 (by rw [hok.out.2.2.2.1]; exact hr.ole) HL.out O1.out hb1 hn).mono ?_
  rintro e w2 ⟨a, c, rfl, o2, f2⟩
  rw [hashD_xof r o 6 data hr.rpos hr.rle] at o2
  rw [hok.out.2.2.2.1]
  have B2 := f2.belowB base hb1 O1.out.own_ge
  have H2 := Lib.hid (And.intro o2 D1)
  clear o2 f2
  go_wp2_with fail
  go_ret
  exact ⟨a, c, w1, rfl, H2.out.1, H2.out.2, f1, B2⟩

theorem shaReset_any (w : World) (b r o : Nat) (data : Bs) (hr : Rt r o) (h : HsAt w b 60 r o data) :
    Calls Try.prog 39 #[.pointer (some ⟨b, 0, none⟩)] w (RetD (.tuple #[]) b 60 [] (absorb (newD r o 6) []) w) := by
  go_enter Try.func39, Try.ntmps39
  go_wp2_with fail
  refine (init_any w b r o data hr h).mono ?_
  rintro e w1 ⟨rfl, D1, f1⟩
  have hok := Lib.hid (hr.abs data)
  go_wp2_with fail
  refine (dReset_any w1 b 60 _ D1).mono ?_
  rintro e w2 ⟨rfl, D2, f2⟩
  have e2 : ({ absorb (newD r o 6) data with a := List.replicate 200 0, n := 0, st := 0 } : Dg) = absorb (newD r o 6) [] := by
    rw [absorb_nil]
    exact reset_eq _ r o hok.out.2.1 hok.out.2.2.1 hok.out.2.2.2.1
  rw [e2] at D2
  have H2 := Lib.hid D2
  clear D2 e2
  go_wp2_with fail
  go_end0
  exact ⟨rfl, H2.out, f1.trans f2⟩

theorem shaSize_any (w : World) (b r o : Nat) (data : Bs) (hr : Rt r o) (h : HsAt w b 60 r o data) :
    Calls Try.prog 40 #[.pointer (some ⟨b, 0, none⟩)] w (RetD (.int .i64 (o : Int)) b 60 [] (absorb (newD r o 6) data) w) := by
  go_enter Try.func40, Try.ntmps40
  go_wp2_with fail
  refine (init_any w b r o data hr h).mono ?_
  rintro e w1 ⟨rfl, D1, f1⟩
  have hok := Lib.hid (hr.abs data)
  go_wp2_with fail
  refine (dSize_any w1 b 60 _ D1).mono ?_
  rintro e w2 ⟨rfl, rfl⟩
  rw [hok.out.2.2.2.1]
  go_wp2_with fail
  go_ret
  exact ⟨rfl, D1, f1⟩

theorem shaBlockSize_any (w : World) (b r o : Nat) (data : Bs) (hr : Rt r o) (h : HsAt w b 60 r o data) :
    Calls Try.prog 41 #[.pointer (some ⟨b, 0, none⟩)] w (RetD (.int .i64 (r : Int)) b 60 [] (absorb (newD r o 6) data) w) := by
  go_enter Try.func41, Try.ntmps41
  go_wp2_with fail
  refine (init_any w b r o data hr h).mono ?_
  rintro e w1 ⟨rfl, D1, f1⟩
  have hok := Lib.hid (hr.abs data)
  go_wp2_with fail
  refine (dBlockSize_any w1 b 60 _ D1).mono ?_
  rintro e w2 ⟨rfl, rfl⟩
  rw [hok.out.2.1]
  go_wp2_with fail
  go_ret
  exact ⟨rfl, D1, f1⟩

theorem zeroSH : ((Try.prog.info? 60).bind (·.zero)).map (·.cells) = some ((newD 0 0 0).cells ++ []).toArray := by kernel_rfl
set_option maxRecDepth 100000 in
/-- a copy of the block -/
theorem shaCopy_any (w : World) (b : Nat) (d : Dg) (h : DgAt w b 60 [] d) :
    Calls Try.prog 59 #[.pointer (some ⟨b, 0, none⟩)] w fun e w' => e = .returned (.tuple #[.iface 45 (.pointer (some ⟨w.heap.size, 0, none⟩)), .nilIface]) ∧ DgAt w' w.heap.size 60 [] d ∧ Fr [] w w' := by
  have hl := h.1
  have H0 : Hid (w.heap[b]? = some (.cells d.cells.toArray 60 (0, 0))) := by have := h.2; rw [List.append_nil] at this; exact this
  have hs : Hid (d.cells.toArray.size = 205) := by show _ = _; simp [Dg.cells_length d hl]
  clear h
  go_enter Try.func59, Try.ntmps59
  go_wp2_with (first | (with_reducible refine wpList_load_row rfl _ _ rfl b rfl 60 d.cells.toArray (0, 0) _ H0.out Try.underlying60 rfl (by rw [hs.out]; exact sizeSH) ?_; refine Hid.out ?_))
  show wpList _ _ _ _ _ _
  refine wpList_alloc_row rfl _ rfl _ zeroSH ?_
  have N1 := Lib.hid (newD_at w 60 0 0 0 [])
  refine wpList_store_bits rfl _ _ _ rfl w.heap.size rfl 60 d.cells.toArray _ rfl N1.out.2 ?_ ?_ ?_ ?_
  · rw [hs.out]; simp [Dg.cells, newD]
  · intro v hv
    exact d.cells_one v (by simpa using hv)
  · rw [hs.out]; exact sizeSH
  have D2 : DgAt ((w.alloc (.cells ((newD 0 0 0).cells ++ []).toArray 60)).setRow w.heap.size d.cells.toArray) w.heap.size 60 [] d := ⟨hl, by rw [List.append_nil d.cells]; exact setRow_heap _ _ _ _ _ _ N1.out.2⟩
  have f2 : Fr [] w ((w.alloc (.cells ((newD 0 0 0).cells ++ []).toArray 60)).setRow w.heap.size d.cells.toArray) := ((Fr.refl _ _).alloc _).setRow _ _ (.inl (Nat.le_refl _))
  generalize (w.alloc (.cells ((newD 0 0 0).cells ++ []).toArray 60)).setRow w.heap.size d.cells.toArray = w2 at D2 f2 ⊢
  have H2 := Lib.hid D2
  clear D2
  go_wp2_with fail
  go_ret2
  exact ⟨rfl, H2.out, f2⟩
theorem shaClone_any (w : World) (b r o : Nat) (data : Bs) (h : HsAt w b 60 r o data) :
    Calls Try.prog 59 #[.pointer (some ⟨b, 0, none⟩)] w fun e w' => e = .returned (.tuple #[.iface 45 (.pointer (some ⟨w.heap.size, 0, none⟩)), .nilIface]) ∧ HsAt w' w.heap.size 60 r o data ∧ Fr [] w w' := by
  rcases h with h | ⟨h1, h2, h3, h⟩
  · exact (shaCopy_any w b _ h).mono fun e w' ⟨x, y, z⟩ => ⟨x, .inl y, z⟩
  · exact (shaCopy_any w b _ h).mono fun e w' ⟨x, y, z⟩ => ⟨x, .inr ⟨h1, h2, h3, y⟩, z⟩

end Go.Proofs.Ytjgdbamlaajkmaa
