/- Sum224, Sum256, Sum384 and Sum512 of the library and of the thin package. No condition but the form's own reach on the bytes. -/
import Derived.Test.YtjgdbamlaajkmaaSumG
import Derived.Test.YtjgdbamlaajkmaaSumS
namespace Go.Sha
open Go.RowKit
theorem hashD_xof (r o : Nat) (ds : UInt8) (data : Bs) (h0 : 0 < r) (hr : r ≤ 168) : hashD (absorb (newD r o ds) data) = xof r o ds data o := by
  unfold hashD xof
  rw [(absorb_ok (newD_ok r o ds h0 hr) data).2.2.2.1]
  rfl
theorem splice_full (cur : Array Value) (l : Bs) (h : cur.size = l.length) : splice cur 0 l = (l.map bv).toArray := by
  unfold splice
  rw [List.drop_of_length_le (by simp [h])]
  simp
theorem bytes_cells_one (l : Bs) : ∀ v ∈ (l.map bv).toArray.toList, v.oneCell' = true := fun v hv => bytes_one l v (by simpa using hv)
/-- a block of just these bytes -/
def BkAt (w : World) (g T : Nat) (l : Bs) : Prop := w.heap[g]? = some (.cells (l.map bv).toArray T (0, 0))
theorem BkAt.sl {w : World} {g T n : Nat} {l : Bs} (h : BkAt w g T l) (hn : l.length = n) (hm : n ≤ maxLen) : Sl w (some ⟨g, 0, none⟩) n n l := by
  subst hn
  refine ⟨rfl, Nat.le_refl _, hm, .inr ⟨g, 0, rfl, fun i hi => ?_⟩⟩
  rw [cell_of h]
  simp [List.getElem?_eq_getElem hi, bv]
theorem BkAt.keep {S : List Nat} {w w' : World} {g T : Nat} {l : Bs} (h : BkAt w g T l) (hf : Fr S w w') (hg : g ∉ S) : BkAt w' g T l := hf.obj h hg
end Go.Sha
namespace Go.Proofs.Ytjgdbamlaajkmaa
open Go.ChangeShapes Go.WideShapes Go.ChangeAt Go.RowKit Go.Sha

end Go.Proofs.Ytjgdbamlaajkmaa
