/- InexactOverlap and XORBytes of the library: bytes are laid over the sponge's. The two slices lie in two blocks. -/
import Derived.Test.YtjgdbamlaajkmaaXor
namespace Go.Proofs.Ytjgdbamlaajkmaa
open Go.ChangeShapes Go.WideShapes Go.ChangeAt Go.RowKit Go.Sha

theorem info5x : (Try.prog.info? 5).map (fun i => (i.zero, i.size, i.bytes)) = some (some (.int .u8 0), 1, 1) := by kernel_rfl

/-- a row of cells that holds something lies in block b -/
def HasRow (w : World) (b : Nat) : Prop := ∃ cs t fz, w.heap[b]? = some (.cells cs t fz) ∧ cs.size ≠ 0
theorem hasRow_of_cell {w : World} {b i : Nat} {v : Value} (h : w.cell? ⟨b, i, none⟩ = some v) : HasRow w b := by
  simp only [World.cell?] at h
  split at h
  · rename_i c t fz hc
    simp at h
    refine ⟨c, t, fz, hc, ?_⟩
    have := (Array.getElem?_eq_some_iff.1 h).1
    omega
  · cases h

theorem inexact_same (b o k c c' : Nat) (w : World) (hk : 0 < k) :
    Calls Try.prog 86 #[.slice (some ⟨b, o, none⟩) k c, .slice (some ⟨b, o, none⟩) k c'] w fun e w' => e = .returned (.bool false) ∧ ∃ n, w' = w.drewN n := by
  obtain ⟨i0, hi0, _, hz1, _⟩ := info_parts info5x
  have h1 : ((k : Int) == 0) = false := by rw [beq_eq_false_iff_ne]; omega
  have h2 : (0 : Int) < (k : Int) := by omega
  have he : ∀ n, (binOp .eql 100 (.pointer (some ⟨b, o, none⟩)) (.pointer (some ⟨b, o, none⟩))).run Try.prog (w.drewN n) = .ok (.bool true) (w.drewN n) := fun n =>
    run_eql_ptr_same _ ⟨b, o, none⟩ Try.underlying100 hi0
  go_enter Try.func86, Try.ntmps86
  go_wp2
  go_quiet (fail)
  go_wp2
  go_ret
  exact ⟨rfl, _, rfl⟩

theorem anyOverlap_ne (b o b' o' la xa lb xb T : Nat) (cs : Array Value) (w : World) (hne : b ≠ b') (h : w.heap[b]? = some (.cells cs T (0, 0))) (h' : HasRow w b') :
    (callFunc 90 #[.slice (some ⟨b, o, none⟩) la xa, .slice (some ⟨b', o', none⟩) lb xb]).run Try.prog w = .ok (.value (.bool false)) w := by
  obtain ⟨cb, tb, fz, hb, hz⟩ := h'
  rw [run_callFunc_match (d := .ok (.bool true) w) Try.func90 (by kernel_rfl) (by kernel_rfl) (by kernel_rfl) (by kernel_rfl) (anyOverlap_run b o b' o' la xa lb xb w), run_ovTail_ne hne h hb hz]
  rfl

theorem inexact_ne (b o b' o' k c c' T : Nat) (cs : Array Value) (w : World) (hk : 0 < k) (hne : b ≠ b') (h : w.heap[b]? = some (.cells cs T (0, 0))) (h' : HasRow w b') :
    Calls Try.prog 86 #[.slice (some ⟨b, o, none⟩) k c, .slice (some ⟨b', o', none⟩) k c'] w fun e w' => e = .returned (.bool false) ∧ ∃ n, w' = w.drewN n := by
  obtain ⟨i0, hi0, _, hz1, _⟩ := info_parts info5x
  have h1 : ((k : Int) == 0) = false := by rw [beq_eq_false_iff_ne]; omega
  have h2 : (0 : Int) < (k : Int) := by omega
  have he : ∀ n, (binOp .eql 100 (.pointer (some ⟨b, o, none⟩)) (.pointer (some ⟨b', o', none⟩))).run Try.prog (w.drewN n) = .ok (.bool false) (w.drewN n) := fun n => by
    obtain ⟨cb, tb, fz, hb, hz⟩ := h'
    exact run_eql_ptr_ne (w := w.drewN n) (a := ⟨b, o, none⟩) (b := ⟨b', o', none⟩) Try.underlying100 hi0 (by omega) hne h hb hz
  have ha : ∀ n, (callFunc 90 #[.slice (some ⟨b, o, none⟩) k c, .slice (some ⟨b', o', none⟩) k c']).run Try.prog (w.drewN n) = .ok (.value (.bool false)) (w.drewN n) := fun n =>
    anyOverlap_ne b o b' o' k c k c' T cs (w.drewN n) hne h h'
  have H := Lib.hid h
  clear h
  go_enter Try.func86, Try.ntmps86
  go_wp2
  go_quiet (fail)
  go_wp2
  go_ret
  exact ⟨rfl, _, rfl⟩

theorem xor_call {w : World} {b T : Nat} {ext : List Value} {d : Dg} (h : DgAt w b T ext d) {o k b' o' : Nat} {p : Bs} (hk : p.length = k) (hok : o + k ≤ 200)
    (hp : ∀ i, i < k → w.cell? ⟨b', o' + i, none⟩ = some (.int .u8 (p.getD i 0).toNat)) :
    ∃ w', (callFunc 87 #[.pointer (some ⟨b, o, none⟩), .pointer (some ⟨b, o, none⟩), .pointer (some ⟨b', o', none⟩), .int .i64 (k : Int)]).run Try.prog w = .ok (.value (.tuple #[])) w' ∧
      DgAt w' b T ext { d with a := xorAt d.a o p } ∧ Fr [b] w w' := by
  obtain ⟨w', h1, h2, h3⟩ := run_xorBytes (P := Try.prog) h hk hok hp
  refine ⟨w', ?_, h2, h3⟩
  rw [run_callFunc_ext Try.func87 _ (Extern.CryptoHooks.xorBytes #[.pointer (some ⟨b, o, none⟩), .pointer (some ⟨b, o, none⟩), .pointer (some ⟨b', o', none⟩), .int .i64 (k : Int)]) (by kernel_rfl) (by kernel_rfl) (by kernel_rfl) (by kernel_rfl), h1]
  rfl

set_option maxRecDepth 100000 in
set_option maxHeartbeats 400000 in
/-- XORBytes lays the first k bytes of p over the sponge's, from the place o on; k is the lesser of the two lengths -/
theorem XORBytes_any (w : World) (b T : Nat) (ext : List Value) (d : Dg) (o m c b' o' n c' k : Nat) (p : Bs) (h : DgAt w b T ext d) (hne : b ≠ b') (hom : o + m ≤ 200) (hk0 : 0 < k) (hkm : k ≤ m) (hkn : k ≤ n) (hmin : (if n < m then (n : Int) else (m : Int)) = (k : Int))
    (hmc : m ≤ c) (hnc : n ≤ c') (hp : ∀ i, i < n → w.cell? ⟨b', o' + i, none⟩ = some (.int .u8 (p.getD i 0).toNat)) (hpl : p.length = n) :
    Calls Try.prog 81 #[.slice (some ⟨b, o, none⟩) m c, .slice (some ⟨b, o, none⟩) m c, .slice (some ⟨b', o', none⟩) n c'] w
      (RetD (.int .i64 k) b T ext { d with a := xorAt d.a o (p.take k) } w) := by
  have hro : HasRow w b' := hasRow_of_cell (hp 0 (by omega))
  have h2 := h.2
  have H2 := Lib.hid h2
  clear h2
  have h1 : ((k : Int) == 0) = false := by rw [beq_eq_false_iff_ne]; omega
  have h3 : decide ((m : Int) < (k : Int)) = false := by simp; omega
  have HP := Lib.hid hp
  clear hp
  have hkc : k ≤ c := by omega
  have hkc' : k ≤ c' := by omega
  go_enter Try.func81, Try.ntmps81
  go_wp2
  go_quiet ((go_at_call 86; first | (with_reducible exact Calls.quiet_of (inexact_same b o k c c _ hk0)) | ((with_reducible refine Calls.quiet_of (inexact_ne b o b' o' k c c' T (d.cells ++ ext).toArray _ hk0 hne ?_ ?_)); exact H2.out; exact hro)))
  go_wp2
  clear H2 hro hmin h1 h3
  refine wp_region_still_tail 7 (by kernel_rfl) (by kernel_rfl) ?_
  have f1 : Fr [b] w (w.drewN nq).drew := ((Fr.refl _ _).drewN _).drew
  have h4 : DgAt (w.drewN nq).drew b T ext d := h
  have hp4 : ∀ i, i < n → (w.drewN nq).drew.cell? ⟨b', o' + i, none⟩ = some (.int .u8 (p.getD i 0).toNat) := HP.out
  change wpStill Try.prog _ (w.drewN nq).drew (fun a' => wpList Try.prog _ _ _ a' (w.drewN nq).drew) _ _
  generalize (w.drewN nq).drew = w2 at f1 h4 hp4 ⊢
  obtain ⟨w3, hc, h5, f5⟩ := xor_call h4 (o := o) (k := k) (b' := b') (o' := o') (p := p.take k) (by simp; omega) (by omega) (fun i hi => by
    rw [hp4 i (by omega)]
    simp [List.getD_eq_getElem?_getD, List.getElem?_take_of_lt hi])
  clear hp4 h4 HP h
  have hm0 : 0 < m := by omega
  have hn0 : 0 < n := by omega
  simp only [List.take_succ_cons, List.take_zero, List.drop_succ_cons, List.drop_zero]
  repeat still_step
  refine wpStill_nil ?_
  go_wp2
  go_ret
  exact ⟨rfl, h5, f1.trans f5⟩
end Go.Proofs.Ytjgdbamlaajkmaa
