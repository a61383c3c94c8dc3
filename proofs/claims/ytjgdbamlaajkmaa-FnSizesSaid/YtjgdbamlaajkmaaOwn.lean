/- The small functions of the laws over bytes: own copies, same, toByteS and eqByteS. No condition but on lengths. -/
import Derived.Test.YtjgdbamlaajkmaaMem
import Derived.LoopTactic
namespace Go.Proofs.Ytjgdbamlaajkmaa
open Go.ChangeShapes Go.WideShapes Go.ChangeAt Go.RowKit Go.Sha

theorem info5 : (Try.prog.info? 5).map (fun i => (i.zero, i.size, i.bytes)) = some (some (.int .u8 0), 1, 1) := by kernel_rfl

/-- own: a copy in new memory -/
theorem own_any (a0 : Option Addr) (n c : Nat) (l : Bs) (w : World) (h : Sl w a0 n c l) (hn : n ≤ 140737488355328) :
    Calls Try.prog 26 #[.slice a0 n c] w (RetO 5 l w) := by
  obtain ⟨i0, hi, hz0, hz1, hz2⟩ := info_parts info5
  go_enter Try.func26, Try.ntmps26
  go_wp2_with (at_builtin; refine wpList_append_src _ rfl _ _ 22 22 rfl w.heap.size 5 i0 (.int .u8 0) 1 1 Try.underlying22 hi hz0 hz1 hz2 rfl none 0 0 [] rfl (World.ownsRow_nil _ _ _ _) _ n (l.map bv) rfl (h.src Try.underlying22) ?c1 ?c2 ?c3 ?_)
  case c1 => unfold maxLen; omega
  case c2 => omega
  case c3 => exact Nat.le_refl _
  intro a' c' w' ho hg
  go_wp2
  go_ret
  have hl := h.len
  subst hl
  exact ⟨a', c', rfl, ho, (Fr.refl _ _).grown hg (by simp [Value.ownBlock])⟩

theorem make_bytes (n : Nat) (hn : n ≤ 140737488355328) : ∀ u : World, (Instr.makeSlice 22 (.int .i64 (n : Int)) (.int .i64 (n : Int))).run Try.prog u =
    .ok (.slice (some ⟨u.heap.size, 0, none⟩) n n) (u.alloc (.cells (madeCells #[.int .u8 0] n) 5)) := fun u => by
  obtain ⟨i0, hi, hz0, hz1, hz2⟩ := info_parts info5
  have h := run_make (P := Try.prog) u 22 5 i0 (.int .u8 0) Try.underlying22 hi hz0 .i64 .i64 (n : Int) (n : Int) (by omega) (Int.le_refl _) (by rw [hz2]; omega) (by omega)
  have e : ((n : Int)).toNat = n := by omega
  rw [e] at h
  simpa [hz1, Value.cells] using h

theorem make_lit (n : Nat) (z : Int) (hz : z = n) (hn : n ≤ 140737488355328) : ∀ u : World, (Instr.makeSlice 22 (.int .i64 z) (.int .i64 z)).run Try.prog u =
    .ok (.slice (some ⟨u.heap.size, 0, none⟩) n n) (u.alloc (.cells (madeCells #[.int .u8 0] n) 5)) := by subst hz; exact make_bytes n hn
end Go.Proofs.Ytjgdbamlaajkmaa
