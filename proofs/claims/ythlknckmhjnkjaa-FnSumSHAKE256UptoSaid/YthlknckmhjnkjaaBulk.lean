/- The bulk of a datum that was read from a slice bounds the slice's capacity. No condition. -/
import Derived.Test.YthlknckmhjnkjaaOpen
namespace Go.Proofs.Ythlknckmhjnkjaa
open Go.ChangeShapes Go.WideShapes Go.ChangeAt Go.RowKit Go.Sha
theorem bulk_pos {H : Type} (d : DataW H) : 1 ≤ Rows.uptoBulk d := by
  cases d with
  | lit l => cases l <;> simp [Rows.uptoBulk]
  | _ => simp [Rows.uptoBulk]
theorem bulk_all {H : Type} (ds : List (DataW H)) : ds.length ≤ Rows.uptoBulkAll ds := by
  induction ds with
  | nil => simp [Rows.uptoBulkAll]
  | cons d ds ih =>
    have := bulk_pos d
    simp only [Rows.uptoBulkAll, List.length_cons]
    omega
theorem DLen_bulk {H : Type} {d : DataW H} {len cap : Nat} (h : DLen d len cap) : len ≤ cap ∧ cap ≤ Rows.uptoBulk d := by
  rcases h with ⟨rfl, rfl, rfl⟩ | ⟨es, sp, rfl, h1, h2⟩
  · simp
  · have h3 := bulk_all es
    have h4 := bulk_all sp
    simp only [Rows.uptoBulk]
    omega
end Go.Proofs.Ythlknckmhjnkjaa
