/- The sponge's permute and padAndPermute. No condition but that the sponge's place lies within its rate. -/
import Derived.Test.YtjgdbamlaajkmaaDg
import Derived.StillTailTactics
import Derived.IntWalk
namespace Go.Sha
open Go.RowKit
def permD (d : Dg) : Dg := { d with a := kf d.a, n := 0 }
/-- the byte of domain, the last bit of the padding, the permutation -/
def padD (d : Dg) : Dg :=
  let a1 := d.a.set d.n (d.a.getD d.n 0 ^^^ d.ds)
  let a2 := a1.set (d.rate - 1) (a1.getD (d.rate - 1) 0 ^^^ 128)
  { d with a := kf a2, n := 0, st := 1 }
/-- v is handed back; the sponge has become d; all else is as it was -/
def RetD (v : Value) (b T : Nat) (ext : List Value) (d : Dg) (w : World) (e : Ending) (w' : World) : Prop := e = .returned v ∧ DgAt w' b T ext d ∧ Fr [b] w w'
theorem Fr.into {S : List Nat} {w w' w'' : World} (h : Fr [] w w') (k : Fr S w' w'') : Fr S w w'' := (h.mono (by simp)).trans k
theorem Fr.two {b g : Nat} {w w' : World} (h : Fr [b] w w') : Fr [b, g] w w' := h.mono (fun k _ hk => by simp at hk ⊢; exact .inl hk)
end Go.Sha
namespace Go.Proofs.Ytjgdbamlaajkmaa
open Go.ChangeShapes Go.WideShapes Go.ChangeAt Go.RowKit Go.Sha

theorem keccak_call {w : World} {b T : Nat} {ext : List Value} {d : Dg} (h : DgAt w b T ext d) :
    ∃ w', (callFunc 88 #[.pointer (some ⟨b, 0, none⟩)]).run Try.prog w = .ok (.value (.tuple #[])) w' ∧ DgAt w' b T ext { d with a := kf d.a } ∧ Fr [b] w w' := by
  obtain ⟨w', h1, h2, h3⟩ := run_keccak (P := Try.prog) h
  refine ⟨w', ?_, h2, h3⟩
  rw [run_callFunc_ext Try.func88 #[.pointer (some ⟨b, 0, none⟩)] (Extern.Keccak.keccakF1600 #[.pointer (some ⟨b, 0, none⟩)]) (by kernel_rfl) (by kernel_rfl) (by kernel_rfl) (by kernel_rfl), h1]
  rfl

theorem permute_any (w : World) (b T : Nat) (ext : List Value) (d : Dg) (h : DgAt w b T ext d) :
    Calls Try.prog 82 #[.pointer (some ⟨b, 0, none⟩)] w (RetD (.tuple #[]) b T ext (permD d) w) := by
  obtain ⟨w1, hc, h1, hf⟩ := keccak_call h
  have q1 := h1.cn
  have q2 := h1.fz 200
  go_enter Try.func82, Try.ntmps82
  go_wp2
  go_end0
  exact ⟨rfl, h1.setN 0, hf.setCell _ _ (.inr (by simp))⟩

theorem DgAt_drewN {w : World} {b T : Nat} {ext : List Value} {d : Dg} (h : DgAt w b T ext d) (n : Nat) : DgAt (w.drewN n) b T ext d := h
theorem DgAt_drew {w : World} {b T : Nat} {ext : List Value} {d : Dg} (h : DgAt w b T ext d) : DgAt w.drew b T ext d := h

set_option maxRecDepth 100000 in
set_option maxHeartbeats 400000 in
theorem padAndPermute_any (w : World) (b T : Nat) (ext : List Value) (d : Dg) (h : DgAt w b T ext d) (hn : d.n < d.rate) (hr : d.rate ≤ 168) :
    Calls Try.prog 91 #[.pointer (some ⟨b, 0, none⟩)] w (RetD (.tuple #[]) b T ext (padD d) w) := by
  obtain ⟨da, dn, dr, dd, dou, dst⟩ := d
  simp only at hn hr
  have f1 : Fr [b] w w.drew := (Fr.refl _ _).drew
  have h2 : DgAt w.drew b T ext ⟨da, dn, dr, dd, dou, dst⟩ := h
  go_enter Try.func91, Try.ntmps91
  go_wp2
  refine wp_region_still_tail 17 (by kernel_rfl) (by kernel_rfl) ?_
  change wpStill Try.prog _ w.drew (fun a' => wpList Try.prog _ _ _ a' w.drew) _ _
  generalize w.drew = w2 at f1 h2 ⊢
  have q1 := h2.cn
  have q2 := h2.byte (i := dn) (by omega)
  have q3 := h2.cds
  have q4 := h2.fz dn
  simp only at q1 q2 q3
  generalize hX : da.getD dn 0 = X at q2
  have HX := Lib.hid hX
  clear hX h
  simp only [List.take_succ_cons, List.take_zero, List.drop_succ_cons, List.drop_zero]
  have hb1 : (dn : Int) < 200 := by omega
  repeat still_step
  refine wpStill_nil ?_
  go_wp2
  rw [bits_xor]
  have h3 := h2.setA (i := dn) (by omega) (X ^^^ dd)
  have f3 : Fr [b] w (w2.setCell ⟨b, dn, none⟩ (.int .u8 (X ^^^ dd).toNat)) := f1.setCell _ _ (.inr (by simp))
  generalize w2.setCell ⟨b, dn, none⟩ (.int .u8 (X ^^^ dd).toNat) = w3 at f3 h3 ⊢
  rw [← HX.out] at h3
  clear q1 q2 q3 q4 HX h2 f1 hb1
  simp only at h3
  generalize hA : da.set dn (da.getD dn 0 ^^^ dd) = A at h3
  have HA := Lib.hid hA
  clear hA
  refine wp_region_still_tail 14 (by kernel_rfl) (by kernel_rfl) ?_
  change wpStill Try.prog _ w3.drew (fun a' => wpList Try.prog _ _ _ a' w3.drew) _ _
  have f4 := f3.drew
  have h4 := DgAt_drew h3
  clear f3 h3
  generalize w3.drew = w4 at f4 h4 ⊢
  obtain ⟨r1, hr1⟩ : ∃ r1, dr = r1 + 1 := ⟨dr - 1, by omega⟩
  subst hr1
  have q1 := h4.crate
  have q2 := h4.byte (i := r1) (by omega)
  have q4 := h4.fz r1
  simp only at q1 q2
  generalize hX : A.getD r1 0 = X at q2
  have HX := Lib.hid hX
  clear hX
  have hb1 : (r1 : Int) < 200 := by omega
  have hb3 : IntKind.i64.wrap (r1 : Int) = (r1 : Int) := IntWalk.i64_in _ (by omega)
  simp only [List.take_succ_cons, List.take_zero, List.drop_succ_cons, List.drop_zero]
  repeat still_step
  refine wpStill_nil ?_
  go_wp2_with fail
  have e128 : bits BinOp.xor IntKind.u8 (X.toNat : Int) 128 = ((X ^^^ 128).toNat : Int) := bits_xor X 128
  rw [e128]
  clear hb3
  have h5 := h4.setA (i := r1) (by omega) (X ^^^ 128)
  have f5 : Fr [b] w (w4.setCell ⟨b, r1, none⟩ (.int .u8 (X ^^^ 128).toNat)) := f4.setCell _ _ (.inr (by simp))
  generalize w4.setCell ⟨b, r1, none⟩ (.int .u8 (X ^^^ 128).toNat) = w5 at f5 h5 ⊢
  refine (permute_any _ _ _ _ _ h5).mono ?_
  rintro e w6 ⟨rfl, h6, f6⟩
  have q7 := h6.cst
  have q8 := h6.fz 204
  clear q1 q2 q4
  go_wp2_with fail
  go_end0
  refine ⟨rfl, ?_, (f5.trans f6).setCell _ _ (.inr (by simp))⟩
  have h7 := h6.setSt 1
  have e : ({ permD { a := A.set r1 (X ^^^ 128), n := dn, rate := r1 + 1, ds := dd, out := dou, st := dst } with st := 1 } : Dg) = padD { a := da, n := dn, rate := r1 + 1, ds := dd, out := dou, st := dst } := by
    simp only [padD, permD, HA.out, Nat.add_sub_cancel, HX.out]
  rw [← e]
  exact h7
end Go.Proofs.Ytjgdbamlaajkmaa
