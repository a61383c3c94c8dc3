/- How a slice of bytes that came in is opened: it reads as a list of bytes; what its datum says of its lengths. No condition. -/
import Derived.Test.YtjgdbamlaajkmaaBase
import Derived.SizedLaws
import Derived.JoinedCond
import Derived.Deep.CondSized
namespace Go.Sha
open Go.RowKit Go.ChangeShapes Go.WideShapes Go.ChangeAt

def toB (z : Int) : UInt8 := UInt8.ofNat z.toNat
theorem toB_nat (z : Int) (h0 : 0 ≤ z) (h1 : z ≤ 255) : ((toB z).toNat : Int) = z := by
  unfold toB
  rw [UInt8.toNat_ofNat']
  omega
theorem wf_u8 {z : Int} (h : (Lit.int .u8 z).wf = true) : 0 ≤ z ∧ z ≤ 255 := by
  simp [Lit.wf, IntKind.min, IntKind.max, IntKind.signed, IntKind.bits] at h
  omega
theorem lits_length {H : Type} (k : IntKind) (zs : List Int) : (lits (H := H) k zs).length = zs.length := by simp [lits]

/-- what a datum says of the lengths of the slice that it was read from -/
def DLen {H : Type} (d : DataW H) (len cap : Nat) : Prop :=
  (d = .nil ∧ len = 0 ∧ cap = 0) ∨ ∃ es sp, d = .slice es sp ∧ es.length + sp.length = cap ∧ len ≤ cap

section
variable {H : Type} {enc : TypeId × Value → H} {P : Program} {w : World}
theorem open_bytes {t e : TypeId} {base fuel len cap : Nat} {held : Bool} {a : Option Addr} {d : DataW H} {p : List MemPlace} (ht : P.underlying t = some (.slice e)) (he : P.underlying e = some (.int .u8)) (hc : P.cellsOf e = 1)
    (h : DataW.trod enc P w base (fun _ => true) held fuel t (Value.slice a len cap).cells.toList = some (d, p)) : ∃ l : Bs, Sl w a len cap l ∧ DLen d len cap := by
  rcases open_ints ht he hc h with ⟨hcs, hx⟩ | ⟨x, l, c, zs, hcs, _, hl, hm, hz, hx, hcell, hwz⟩
  · simp [Value.cells] at hcs
    obtain ⟨rfl, rfl, rfl⟩ := hcs
    simp only [Prod.mk.injEq] at hx
    exact ⟨[], ⟨rfl, Nat.le_refl _, by simp [maxLen], .inl rfl⟩, .inl ⟨hx.1, rfl, rfl⟩⟩
  · simp [Value.cells] at hcs
    obtain ⟨rfl, rfl, rfl⟩ := hcs
    simp only [if_true] at hz
    simp only [Prod.mk.injEq] at hx
    refine ⟨(zs.take len).map toB, ⟨by simp; omega, hl, hm, ?_⟩, .inr ⟨_, _, hx.1, by simp [lits_length]; omega, hl⟩⟩
    by_cases h0 : len = 0
    · exact .inl h0
    · right
      obtain ⟨b, o, s⟩ := x
      have hs : s = none := by
        have := hcell 0 (by omega)
        simp only [Addr.add, if_true, World.cell?] at this
        cases s with
        | none => rfl
        | some _ =>
          exfalso
          revert this
          split <;> simp
      subst hs
      refine ⟨b, o, rfl, fun i hi => ?_⟩
      have hadd : (⟨b, o, none⟩ : Addr).add i = ⟨b, o + i, none⟩ := by unfold Addr.add; split <;> simp_all
      rw [← hadd, hcell i (by omega)]
      have hi2 : i < zs.length := by omega
      have hmem : zs[i] ∈ zs := List.getElem_mem hi2
      have hw := wf_u8 (hwz _ hmem)
      simp only [List.getD_eq_getElem?_getD, List.getElem?_map, List.getElem?_take_of_lt hi, List.getElem?_eq_getElem hi2, Option.map_some, Option.getD_some]
      rw [toB_nat _ hw.1 hw.2]

theorem DLen.reach {d : DataW H} {len cap j : Nat} {t e : TypeId} {ts : List TypeId} {ds : List (DataW H)} (h : DLen d len cap) (hsz : (DataW.weightsEach P ts ds).all (· ≤ reachBytes) = true)
    (ht : ts[j]? = some t) (hd : ds[j]? = some d) (hu : P.underlying t = some (.slice e)) (hb : P.bytesOf e = 1) : len ≤ 140737488351232 ∧ cap ≤ 140737488351232 := by
  rcases h with ⟨_, rfl, rfl⟩ | ⟨es, sp, rfl, h1, h2⟩
  · omega
  · have := sized_slice hsz ht hd hu
    rw [hb] at this
    simp only [reachBytes] at this
    omega
end
end Go.Sha
