/- Contracts and lemmas, merged: Hd. Their conditions stand in each. -/
import Derived.Test.YtfgfhdkedmgfiaaGA
import Derived.Test.YtfgfhdkedmgfiaaGB
import Derived.Test.YtfgfhdkedmgfiaaGC
import Derived.Test.YtfgfhdkedmgfiaaGD
import Derived.Test.YtfgfhdkedmgfiaaGE
import Derived.Test.YtfgfhdkedmgfiaaGF
import Derived.Test.YtfgfhdkedmgfiaaGG
import Derived.Test.YtfgfhdkedmgfiaaGH
import Derived.Test.YtfgfhdkedmgfiaaGN
import Derived.Test.YtfgfhdkedmgfiaaGO
section
namespace Go.Proofs.Ytfgfhdkedmgfiaa
open Go.ChangeShapes Go.WideShapes Go.ChangeAt Go.RowKit Go.Sha
theorem o_ge : ∀ k, k < 5 → 16 ≤ oOf k := by decide
theorem hashed_any (kind : Int) (ad : Option Addr) (nd cd : Nat) (data : Bs) (w : World) (hS : Sl w ad nd cd data) (hn : 8 * nd + 2000 ≤ 140737488355328) :
    Calls Try.prog 20 #[.int .i64 kind, .slice ad nd cd] w (RetO 5 (hsum (rOf (k5 kind)) (oOf (k5 kind)) data) w) := by
  have hl := k5_lt kind
  have hk := k5_int kind
  obtain ⟨k, hkk⟩ : ∃ k, k = k5 kind := ⟨_, rfl⟩
  rw [← hkk] at hl hk ⊢
  have hro := ro_of k hl
  have hole := (rt_of _ hl).ole
  have hoge := o_ge k hl
  have HK := Lib.hid hk
  have HR := Lib.hid hro
  have HS := Lib.hid hS
  clear hk hkk hro hS
  go_enter Try.func20, Try.ntmps20
  go_wp2_with fail
  refine (sizes_sz w).mono ?_
  rintro e w1 ⟨g, rfl, hg, hz, f1⟩
  have q := hz.cell k hl
  clear hz
  go_wp2_with fail
  refine (mod_nat kind 5 k w1 (by decide) (by decide) HK.out).mono ?_
  rintro e w2 ⟨rfl, rfl⟩
  have hkl : (k : Int) < 5 := by omega
  have S2 := Lib.hid (HS.out.keep0 f1)
  obtain ⟨o, ho⟩ : ∃ o, o = oOf k := ⟨_, rfl⟩
  rw [← ho] at q hole hoge
  have HOO := Lib.hid ho
  clear ho
  go_wp2_with fail
  refine (digest_any ad nd cd data o w2 S2.out hoge (by omega) hn).mono ?_
  rintro e w3 ⟨a3, c3, rfl, o3, f3⟩
  have O3 := Lib.hid o3
  clear o3
  go_wp2_with fail
  go_ret
  have e : hsum (rOf k) (oOf k) data = xof (200 - 2 * o) o 6 data o := by
    unfold hsum
    rw [← HR.out, ← HOO.out]
  refine ⟨a3, c3, ?_, ?_, f1.trans f3⟩
  · rw [e]
    rfl
  · rw [e]
    exact O3.out.mono f1.size
end Go.Proofs.Ytfgfhdkedmgfiaa
end
