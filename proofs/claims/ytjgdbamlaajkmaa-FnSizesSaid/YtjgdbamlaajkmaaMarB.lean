/- Saved and loaded states of a hash of package sha3. No condition but on lengths. -/
import Derived.Test.YtjgdbamlaajkmaaUnm
namespace Go.Sha
open Go.RowKit
theorem Ow.made0 (w : World) (n e : Nat) (hn : n ≤ maxLen) : Ow (w.alloc (.cells (madeCells #[.int .u8 0] n) e)) w.heap.size e (some ⟨w.heap.size, 0, none⟩) n [] :=
  ⟨rfl, .inr ⟨w.heap.size, n, madeCells #[.int .u8 0] n, by simp, Nat.le_refl _, Go.heap_alloc_new w _, by simp, hn, by simp [size_madeCells], by simp⟩⟩
/-- the state of a hash to which data has been written, as bytes -/
def marH (r o : Nat) (data : Bs) : Bs := mar 8 (absorb (newD r o 6) data)
theorem marH_length (r o : Nat) (data : Bs) (h : Rt r o) : (marH r o data).length = 207 := mar_length _ _ (h.abs data).1.len
end Go.Sha
namespace Go.Proofs.Ytjgdbamlaajkmaa
open Go.ChangeShapes Go.WideShapes Go.ChangeAt Go.RowKit Go.Sha
theorem make_cap2 (n c : Nat) (z0 z : Int) (h0 : z0 = n) (hz : z = c) (hn : n ≤ c) (hc : c ≤ 140737488355328) : ∀ u : World, (Instr.makeSlice 22 (.int .i64 z0) (.int .i64 z)).run Try.prog u =
    .ok (.slice (some ⟨u.heap.size, 0, none⟩) n c) (u.alloc (.cells (madeCells #[.int .u8 0] c) 5)) := by
  subst h0
  exact make_cap n c z hz hn hc
theorem marshal_sha (w : World) (b T : Nat) (ext : List Value) (d : Dg) (h : DgAt w b T ext d) (hds : d.ds = 6) (hr : d.rate ≤ 255) (hdn : d.n ≤ 255) (hst : d.st ≤ 255) :
    Calls Try.prog 60 #[.pointer (some ⟨b, 0, none⟩)] w fun e w' => ∃ a c, e = .returned (.tuple #[.slice a 207 c, .nilIface]) ∧ Ow w' w.heap.size 5 a c (mar 8 d) ∧ Fr [] w w' := by
  have hmk := make_cap2 0 207 0 207 rfl rfl (by omega) (by omega)
  have hbb := h.lt
  have HDS := Lib.hid hds
  clear hds
  go_enter Try.func60, Try.ntmps60
  go_wp2_with fail
  clear hmk
  have f1 : Fr [] w (w.alloc (.cells (madeCells #[.int .u8 0] 207) 5)) := (Fr.refl _ _).alloc _
  have O1 := Lib.hid (Ow.made0 w 207 5 (by simp [maxLen]))
  have D1 := Lib.hid (h.keep f1 (by simp))
  have hz : w.heap.size ≤ (w.alloc (.cells (madeCells #[.int .u8 0] 207) 5)).heap.size := by simp
  refine (appendBinary_sha _ b T ext d _ 0 207 w.heap.size [] D1.out HDS.out rfl O1.out hz hbb (by omega) hr hdn hst).mono ?_
  rintro e w2 ⟨a, c, rfl, O2, B2⟩
  have H2 := Lib.hid O2
  clear O2
  go_wp2_with fail
  go_ret2
  exact ⟨a, c, by simp, by simpa using H2.out, (f1.of_belowB B2 (Nat.le_refl _))⟩

theorem abs_small (r o : Nat) (data : Bs) (h : Rt r o) : (absorb (newD r o 6) data).rate ≤ 255 ∧ (absorb (newD r o 6) data).n ≤ 255 ∧ (absorb (newD r o 6) data).st ≤ 255 := by
  have h1 := h.abs data
  have h2 := h1.1.lt
  have h3 := h.rle
  have h4 := h1.2.1
  have h5 := h1.2.2.2.2
  omega
theorem shaMarshal_any (w : World) (b r o : Nat) (data : Bs) (hr : Rt r o) (h : HsAt w b 60 r o data) :
    Calls Try.prog 43 #[.pointer (some ⟨b, 0, none⟩)] w fun e w' => ∃ a c, e = .returned (.tuple #[.slice a 207 c, .nilIface]) ∧ Ow w' w.heap.size 5 a c (marH r o data) ∧ DgAt w' b 60 [] (absorb (newD r o 6) data) ∧ Fr [b] w w' := by
  go_enter Try.func43, Try.ntmps43
  go_wp2_with fail
  refine (init_any w b r o data hr h).mono ?_
  rintro e w1 ⟨rfl, D1, f1⟩
  have hok := Lib.hid (hr.abs data)
  have hsm := abs_small r o data hr
  go_wp2_with fail
  refine (marshal_sha w1 b 60 [] _ D1 hok.out.2.2.1 hsm.1 hsm.2.1 hsm.2.2).mono ?_
  rintro e w2 ⟨a, c, rfl, O2, f2⟩
  have H2 : Hid (Ow w2 w.heap.size 5 a c (marH r o data)) := O2.mono f1.size
  have D2 := Lib.hid (D1.keep f2 (by simp))
  clear O2
  go_wp2_with fail
  go_ret2
  exact ⟨a, c, rfl, H2.out, D2.out, f1.trans (f2.mono (by simp))⟩

theorem shaAppend_any (w : World) (b r o : Nat) (data : Bs) (ai : Option Addr) (ni ci base : Nat) (l : Bs) (hr : Rt r o) (h : HsAt w b 60 r o data) (hl : l.length = ni) (hO : Ow w base 5 ai ci l) (hb : base ≤ w.heap.size) (hbb : b < base) (hn : ni + 207 ≤ 140737488355328) :
    Calls Try.prog 45 #[.pointer (some ⟨b, 0, none⟩), .slice ai ni ci] w fun e w' => ∃ a c w1, e = .returned (.tuple #[.slice a (ni + 207) c, .nilIface]) ∧ Ow w' base 5 a c (l ++ marH r o data) ∧ DgAt w1 b 60 [] (absorb (newD r o 6) data) ∧ Fr [b] w w1 ∧ Below base w1 w' := by
  have HL := Lib.hid hl
  have HO := Lib.hid hO
  clear hl hO
  go_enter Try.func45, Try.ntmps45
  go_wp2_with fail
  refine (init_any w b r o data hr h).mono ?_
  rintro e w1 ⟨rfl, D1, f1⟩
  have hok := Lib.hid (hr.abs data)
  have hsm := abs_small r o data hr
  have O1 := Lib.hid (HO.out.keep f1 (fun k hk => by simp; omega))
  have hb1 : base ≤ w1.heap.size := Nat.le_trans hb f1.size
  go_wp2_with fail
  refine (appendBinary_sha w1 b 60 [] _ ai ni ci base l D1 hok.out.2.2.1 HL.out O1.out hb1 hbb hn hsm.1 hsm.2.1 hsm.2.2).mono ?_
  rintro e w2 ⟨a, c, rfl, o2, B2⟩
  have H2 := Lib.hid (And.intro o2 D1)
  clear o2
  go_wp2_with fail
  go_ret2
  exact ⟨a, c, w1, rfl, H2.out.1, H2.out.2, f1, B2⟩

theorem load_eq (d d0 : Dg) (h1 : d0.rate = d.rate) (h2 : d0.ds = d.ds) (h3 : d0.out = d.out) : ({ d with a := d0.a, n := d0.n, st := d0.st } : Dg) = d0 := by
  obtain ⟨_, _, _, _, _, _⟩ := d
  obtain ⟨_, _, _, _, _, _⟩ := d0
  simp only at h1 h2 h3
  subst h1 h2 h3
  rfl
theorem shaUnmarshal_any (w : World) (b r o : Nat) (data saved : Bs) (g og cp : Nat) (hr : Rt r o) (h : HsAt w b 60 r o data) (hS : Sl w (some ⟨g, og, none⟩) 207 cp (marH r o saved)) (hgb : g ≠ b) :
    Calls Try.prog 46 #[.pointer (some ⟨b, 0, none⟩), .slice (some ⟨g, og, none⟩) 207 cp] w (RetD .nilIface b 60 [] (absorb (newD r o 6) saved) w) := by
  go_enter Try.func46, Try.ntmps46
  go_wp2_with fail
  refine (init_any w b r o data hr h).mono ?_
  rintro e w1 ⟨rfl, D1, f1⟩
  have hok := Lib.hid (hr.abs data)
  have hok2 := Lib.hid (hr.abs saved)
  have hsm := abs_small r o data hr
  have S1 := Lib.hid (hS.keep f1 (fun x hx _ => by simp at hx ⊢; rw [← hx]; exact hgb))
  go_wp2_with fail
  refine (unmarshal_sha w1 b 60 [] _ (absorb (newD r o 6) saved) g og cp D1 hok.out.2.2.1 hok2.out.1.len (by rw [hok2.out.2.1, hok.out.2.1]) hsm.1 (by rw [hok.out.2.1]; have := hok2.out.1.lt; rw [hok2.out.2.1] at this; omega) (.inl hok2.out.2.2.2.2) S1.out hgb).mono ?_
  rintro e w2 ⟨rfl, D2, f2⟩
  rw [load_eq _ _ (by rw [hok2.out.2.1, hok.out.2.1]) (by rw [hok2.out.2.2.1, hok.out.2.2.1]) (by rw [hok2.out.2.2.2.1, hok.out.2.2.2.1])] at D2
  have H2 := Lib.hid D2
  clear D2
  go_wp2_with fail
  go_ret
  exact ⟨rfl, H2.out, f1.trans f2⟩

end Go.Proofs.Ytjgdbamlaajkmaa
