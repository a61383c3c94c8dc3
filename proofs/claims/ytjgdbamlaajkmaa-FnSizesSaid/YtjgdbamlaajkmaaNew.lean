/- New sponges, and the wrappers of write and read. No condition but those of write and read. -/
import Derived.Test.YtjgdbamlaajkmaaRead
namespace Go.Sha
open Go.RowKit
/-- a new sponge -/
def newD (rate out : Nat) (ds : UInt8) : Dg := { a := List.replicate 200 0, n := 0, rate := rate, ds := ds, out := out, st := 0 }
theorem newD_ok (rate out : Nat) (ds : UInt8) (h : 0 < rate) (h2 : rate ≤ 168) : (newD rate out ds).Ok := ⟨List.length_replicate, h, h2⟩
theorem newD_at (w : World) (T rate out : Nat) (ds : UInt8) (ext : List Value) : DgAt (w.alloc (.cells ((newD rate out ds).cells ++ ext).toArray T)) w.heap.size T ext (newD rate out ds) :=
  ⟨List.length_replicate, Go.heap_alloc_new w _⟩
/-- a new sponge lies in a new block -/
def RetN (T : Nat) (ext : List Value) (d : Dg) (w : World) (e : Ending) (w' : World) : Prop := e = .returned (.pointer (some ⟨w.heap.size, 0, none⟩)) ∧ DgAt w' w.heap.size T ext d ∧ Fr [] w w' ∧ w'.heap.size = w.heap.size + 1
end Go.Sha
namespace Go.Proofs.Ytjgdbamlaajkmaa
open Go.ChangeShapes Go.WideShapes Go.ChangeAt Go.RowKit Go.Sha

set_option maxRecDepth 100000 in
theorem New224_any (w : World) : Calls Try.prog 49 #[] w (RetN 58 [] (newD 144 28 6) w) := by
  have key : Calls Try.prog 49 #[] w fun e w' => e = .returned (.pointer (some ⟨w.heap.size, 0, none⟩)) ∧ w' = w.alloc (.cells ((newD 144 28 6).cells ++ []).toArray 58) := by
    go_enter Try.func49, Try.ntmps49
    go_wp2
    go_ret
    exact ⟨rfl, by kernel_rfl⟩
  refine key.mono fun e w' ⟨h1, h2⟩ => ?_
  subst h2
  exact ⟨h1, newD_at w _ _ _ _ [], (Fr.refl _ _).alloc _, by simp⟩

set_option maxRecDepth 100000 in
theorem New256_any (w : World) : Calls Try.prog 50 #[] w (RetN 58 [] (newD 136 32 6) w) := by
  have key : Calls Try.prog 50 #[] w fun e w' => e = .returned (.pointer (some ⟨w.heap.size, 0, none⟩)) ∧ w' = w.alloc (.cells ((newD 136 32 6).cells ++ []).toArray 58) := by
    go_enter Try.func50, Try.ntmps50
    go_wp2
    go_ret
    exact ⟨rfl, by kernel_rfl⟩
  refine key.mono fun e w' ⟨h1, h2⟩ => ?_
  subst h2
  exact ⟨h1, newD_at w _ _ _ _ [], (Fr.refl _ _).alloc _, by simp⟩

set_option maxRecDepth 100000 in
theorem New384_any (w : World) : Calls Try.prog 51 #[] w (RetN 58 [] (newD 104 48 6) w) := by
  have key : Calls Try.prog 51 #[] w fun e w' => e = .returned (.pointer (some ⟨w.heap.size, 0, none⟩)) ∧ w' = w.alloc (.cells ((newD 104 48 6).cells ++ []).toArray 58) := by
    go_enter Try.func51, Try.ntmps51
    go_wp2
    go_ret
    exact ⟨rfl, by kernel_rfl⟩
  refine key.mono fun e w' ⟨h1, h2⟩ => ?_
  subst h2
  exact ⟨h1, newD_at w _ _ _ _ [], (Fr.refl _ _).alloc _, by simp⟩

set_option maxRecDepth 100000 in
theorem New512_any (w : World) : Calls Try.prog 52 #[] w (RetN 58 [] (newD 72 64 6) w) := by
  have key : Calls Try.prog 52 #[] w fun e w' => e = .returned (.pointer (some ⟨w.heap.size, 0, none⟩)) ∧ w' = w.alloc (.cells ((newD 72 64 6).cells ++ []).toArray 58) := by
    go_enter Try.func52, Try.ntmps52
    go_wp2
    go_ret
    exact ⟨rfl, by kernel_rfl⟩
  refine key.mono fun e w' ⟨h1, h2⟩ => ?_
  subst h2
  exact ⟨h1, newD_at w _ _ _ _ [], (Fr.refl _ _).alloc _, by simp⟩

theorem write_any (w : World) (b T : Nat) (ext : List Value) (d : Dg) (ap : Option Addr) (np cp : Nat) (p : Bs) (h : DgAt w b T ext d) (hd : d.Ok) (hst : d.st = 0) (hp : Sl w ap np cp p) (hne : ∀ x, ap = some x → np ≠ 0 → x.block ≠ b) :
    Calls Try.prog 66 #[.pointer (some ⟨b, 0, none⟩), .slice ap np cp] w (RetD (.tuple #[.int .i64 np, .nilIface]) b T ext (absorb d p) w) := by
  go_enter Try.func66, Try.ntmps66
  go_wp2_with fail
  refine (writeGeneric_any w b T ext d ap np cp p h hd hst hp hne).mono ?_
  rintro e w' ⟨rfl, h1, h2⟩
  go_wp2_with fail
  go_ret2
  exact ⟨rfl, h1, h2⟩

theorem Write_any (w : World) (b T : Nat) (ext : List Value) (d : Dg) (ap : Option Addr) (np cp : Nat) (p : Bs) (h : DgAt w b T ext d) (hd : d.Ok) (hst : d.st = 0) (hp : Sl w ap np cp p) (hne : ∀ x, ap = some x → np ≠ 0 → x.block ≠ b) :
    Calls Try.prog 54 #[.pointer (some ⟨b, 0, none⟩), .slice ap np cp] w (RetD (.tuple #[.int .i64 np, .nilIface]) b T ext (absorb d p) w) := by
  go_enter Try.func54, Try.ntmps54
  go_wp2_with fail
  refine (write_any w b T ext d ap np cp p h hd hst hp hne).mono ?_
  rintro e w' ⟨rfl, h1, h2⟩
  go_wp2_with fail
  go_ret2
  exact ⟨rfl, h1, h2⟩

theorem getIndicator_run (w : World) : (callFunc 73 #[]).run Try.prog w = .ok (.value (.int .u8 0)) w := by
  rw [run_callFunc_ext Try.func73 #[] (pure (.int .u8 0)) (by kernel_rfl) (by kernel_rfl) (by kernel_rfl) (by kernel_rfl)]
  rfl
theorem setIndicator_run (v : Value) (w : World) : (callFunc 74 #[v]).run Try.prog w = .ok (.value (.tuple #[])) w := by
  rw [run_callFunc_ext Try.func74 #[v] (pure (.tuple #[])) (by kernel_rfl) (by kernel_rfl) (by kernel_rfl) (by kernel_rfl)]
  rfl
theorem recordApproved_any (w : World) : Calls Try.prog 67 #[] w fun e w' => e = .returned (.tuple #[]) ∧ w = w' := by
  have h1 := getIndicator_run
  have h2 := setIndicator_run
  go_enter Try.func67, Try.ntmps67
  go_wp2
  go_end0
  exact ⟨rfl, rfl⟩

theorem dread_abs (w : World) (b T : Nat) (ext : List Value) (d : Dg) (g o m c e : Nat) (cur : Array Value) (h : DgAt w b T ext d) (hok : d.Ok) (hst : (d.st : Int) = 0) (hg : w.heap[g]? = some (.cells cur e (0, 0))) (hgb : b ≠ g) (hom : o + m ≤ cur.size) (hmc : m ≤ c) (hcm : c ≤ 9223372036854775807) :
    Calls Try.prog 84 #[.pointer (some ⟨b, 0, none⟩), .slice (some ⟨g, o, none⟩) m c] w (RetR b T ext (padD d) g o m e cur w) := by
  have HG := Lib.hid hg
  have HS := Lib.hid hst
  clear hg hst
  go_enter Try.func84, Try.ntmps84
  go_wp2_with fail
  refine (read_abs w b T ext d g o m c e cur h hok HS.out HG.out hgb hom hmc hcm).mono ?_
  rintro en w' ⟨rfl, h1, h2, h3⟩
  have H2 := Lib.hid h2
  clear h2
  go_wp2_with fail
  go_ret2
  exact ⟨rfl, h1, H2.out, h3⟩

theorem dread_sq (w : World) (b T : Nat) (ext : List Value) (d : Dg) (g o m c e : Nat) (cur : Array Value) (h : DgAt w b T ext d) (hok : d.Sq) (hst : (d.st : Int) = 1) (hg : w.heap[g]? = some (.cells cur e (0, 0))) (hgb : b ≠ g) (hom : o + m ≤ cur.size) (hmc : m ≤ c) (hcm : c ≤ 9223372036854775807) :
    Calls Try.prog 84 #[.pointer (some ⟨b, 0, none⟩), .slice (some ⟨g, o, none⟩) m c] w (RetR b T ext (d) g o m e cur w) := by
  have HG := Lib.hid hg
  have HS := Lib.hid hst
  clear hg hst
  go_enter Try.func84, Try.ntmps84
  go_wp2_with fail
  refine (read_sq w b T ext d g o m c e cur h hok HS.out HG.out hgb hom hmc hcm).mono ?_
  rintro en w' ⟨rfl, h1, h2, h3⟩
  have H2 := Lib.hid h2
  clear h2
  go_wp2_with fail
  go_ret2
  exact ⟨rfl, h1, H2.out, h3⟩

end Go.Proofs.Ytjgdbamlaajkmaa
