/- The sponge's state as bytes and numbers, what absorbing and squeezing do to it, and where it lies in memory. Plain definitions and lemmas; no condition. -/
import Derived.Test.YtjgdbamlaajkmaaMem
namespace Go.Sha
open Go.RowKit

/-- the permutation on 200 bytes, by the model's own row for it -/
def kf (a : Bs) : Bs :=
  let lanes := (Array.range 25).map fun i => (List.range 8).foldr (fun j acc => acc * 256 + (a.getD (8 * i + j) 0).toNat) 0
  let out := Extern.Keccak.roundConstants.foldl Extern.Keccak.round lanes
  (List.range 200).map fun k => UInt8.ofNat (out.getD (k / 8) 0 / 256 ^ (k % 8) % 256)
theorem kf_length (a : Bs) : (kf a).length = 200 := by simp [kf]

/-- a sponge: its bytes, its place, its rate, its byte of domain, the length of its output, 0 while it absorbs -/
structure Dg where
  a : Bs
  n : Nat
  rate : Nat
  ds : UInt8
  out : Nat
  st : Nat
def Dg.cells (d : Dg) : List Value := d.a.map bv ++ [.int .i64 d.n, .int .i64 d.rate, .int .u8 d.ds.toNat, .int .i64 d.out, .int .i64 d.st]
/-- the sponge d lies at the head of block b, with 'ext' behind it -/
def DgAt (w : World) (b T : Nat) (ext : List Value) (d : Dg) : Prop := d.a.length = 200 ∧ w.heap[b]? = some (.cells (d.cells ++ ext).toArray T (0, 0))

theorem DgAt.keep {S : List Nat} {w w' : World} {b T : Nat} {ext : List Value} {d : Dg} (h : DgAt w b T ext d) (hf : Fr S w w') (hb : b ∉ S) : DgAt w' b T ext d := ⟨h.1, hf.obj h.2 hb⟩
theorem DgAt.lt {w : World} {b T : Nat} {ext : List Value} {d : Dg} (h : DgAt w b T ext d) : b < w.heap.size := (Array.getElem?_eq_some_iff.1 h.2).1
theorem DgAt.fz {w : World} {b T : Nat} {ext : List Value} {d : Dg} (h : DgAt w b T ext d) (i : Nat) : w.frozen? ⟨b, i, none⟩ = false := by simp [World.frozen?, h.2]
theorem cell_of {w : World} {b T : Nat} {cs : Array Value} {fz : Nat × Nat} (h : w.heap[b]? = some (.cells cs T fz)) (i : Nat) : w.cell? ⟨b, i, none⟩ = cs[i]? := by simp [World.cell?, h]
section
variable {w : World} {b T : Nat} {ext : List Value} {d : Dg}
theorem DgAt.byte (h : DgAt w b T ext d) {i : Nat} (hi : i < 200) : w.cell? ⟨b, i, none⟩ = some (.int .u8 (d.a.getD i 0).toNat) := by
  have h1 := h.1
  rw [cell_of h.2]
  simp [Dg.cells, List.getElem?_append, h1, hi, List.getElem?_eq_getElem (show i < d.a.length by omega), bv]
theorem tail_at (l m : List Value) (k : Nat) (hl : l.length = 200) : (l ++ m)[200 + k]? = m[k]? := by
  rw [List.getElem?_append_right (by omega)]
  congr 1
  omega
theorem DgAt.cn (h : DgAt w b T ext d) : w.cell? ⟨b, 200, none⟩ = some (.int .i64 d.n) := by
  rw [cell_of h.2]
  simp only [Dg.cells, List.append_assoc, List.getElem?_toArray]
  exact tail_at (d.a.map bv) _ 0 (by simp [h.1])
theorem DgAt.crate (h : DgAt w b T ext d) : w.cell? ⟨b, 201, none⟩ = some (.int .i64 d.rate) := by
  rw [cell_of h.2]
  simp only [Dg.cells, List.append_assoc, List.getElem?_toArray]
  exact tail_at (d.a.map bv) _ 1 (by simp [h.1])
theorem DgAt.cds (h : DgAt w b T ext d) : w.cell? ⟨b, 202, none⟩ = some (.int .u8 d.ds.toNat) := by
  rw [cell_of h.2]
  simp only [Dg.cells, List.append_assoc, List.getElem?_toArray]
  exact tail_at (d.a.map bv) _ 2 (by simp [h.1])
theorem DgAt.cout (h : DgAt w b T ext d) : w.cell? ⟨b, 203, none⟩ = some (.int .i64 d.out) := by
  rw [cell_of h.2]
  simp only [Dg.cells, List.append_assoc, List.getElem?_toArray]
  exact tail_at (d.a.map bv) _ 3 (by simp [h.1])
theorem DgAt.cst (h : DgAt w b T ext d) : w.cell? ⟨b, 204, none⟩ = some (.int .i64 d.st) := by
  rw [cell_of h.2]
  simp only [Dg.cells, List.append_assoc, List.getElem?_toArray]
  exact tail_at (d.a.map bv) _ 4 (by simp [h.1])
theorem DgAt.cext (h : DgAt w b T ext d) {v : Value} (hv : ext = [v]) : w.cell? ⟨b, 205, none⟩ = some v := by
  subst hv
  rw [cell_of h.2]
  simp only [Dg.cells, List.append_assoc, List.getElem?_toArray]
  exact tail_at (d.a.map bv) _ 5 (by simp [h.1])
theorem set_tail (l m : List Value) (k : Nat) (v : Value) (hl : l.length = 200) : (l ++ m).set (200 + k) v = l ++ m.set k v := by
  rw [List.set_append_right _ _ (by omega)]
  congr 2
  omega
theorem DgAt.setN (h : DgAt w b T ext d) (m : Nat) : DgAt (w.setCell ⟨b, 200, none⟩ (.int .i64 m)) b T ext { d with n := m } := by
  refine ⟨h.1, ?_⟩
  rw [heap_setCell_same h.2]
  simp only [Dg.cells, List.append_assoc, List.setIfInBounds_toArray]
  rw [set_tail (d.a.map bv) _ 0 _ (by simp [h.1])]
  rfl
theorem DgAt.setSt (h : DgAt w b T ext d) (m : Nat) : DgAt (w.setCell ⟨b, 204, none⟩ (.int .i64 m)) b T ext { d with st := m } := by
  refine ⟨h.1, ?_⟩
  rw [heap_setCell_same h.2]
  simp only [Dg.cells, List.append_assoc, List.setIfInBounds_toArray]
  rw [set_tail (d.a.map bv) _ 4 _ (by simp [h.1])]
  rfl
theorem DgAt.setA (h : DgAt w b T ext d) {i : Nat} (hi : i < 200) (x : UInt8) : DgAt (w.setCell ⟨b, i, none⟩ (.int .u8 x.toNat)) b T ext { d with a := d.a.set i x } := by
  refine ⟨by simp [h.1], ?_⟩
  rw [heap_setCell_same h.2]
  simp only [Dg.cells, List.append_assoc, List.setIfInBounds_toArray]
  rw [List.set_append_left _ _ (by simp [h.1, hi])]
  simp [List.map_set, bv]
/-- all bytes written anew -/
theorem DgAt.setRow (h : DgAt w b T ext d) (a' : Bs) (ha : a'.length = 200) :
    DgAt (w.setRow b ((d.cells ++ ext).toArray.toList.take (0 + 0) ++ a'.map bv ++ (d.cells ++ ext).toArray.toList.drop (0 + 0 + (a'.map bv).length)).toArray) b T ext { d with a := a' } := by
  refine ⟨ha, ?_⟩
  rw [setRow_heap _ _ _ _ _ _ h.2]
  simp only [Dg.cells, List.append_assoc, List.toList_toArray, Nat.zero_add, List.take_zero, List.nil_append, List.length_map, ha]
  rw [List.drop_left' (by simp [h.1])]
end
theorem Fr.setRow {S : List Nat} {a w : World} (h : Fr S a w) (g : Nat) (cs : Array Value) (hp : a.heap.size ≤ g ∨ g ∈ S) : Fr S a (w.setRow g cs) := by
  refine ⟨h.os, h.tape, h.output, by simpa [World.setRow] using h.size, fun k hk hs => ?_⟩
  rw [setRow_other _ _ _ _ (by rintro rfl; rcases hp with hp | hp; omega; exact hs hp)]
  exact h.block k hk hs

/-! ### The model's row for the permutation -/
theorem run_mapM_list {α β : Type} {P : Program} (f : α → Sem β) (g : α → β) (w : World) : ∀ (l : List α), (∀ x ∈ l, (f x).run P w = .ok (g x) w) → (l.mapM f).run P w = .ok (l.map g) w
  | [], _ => rfl
  | x :: l, h => by
    rw [List.mapM_cons]
    simp only [Sem.run_bind, h x (by simp), Result.andThen_ok, run_mapM_list f g w l (fun y hy => h y (by simp [hy])), Sem.run_pure, List.map_cons]
theorem run_mapM_arr {α β : Type} {P : Program} (f : α → Sem β) (g : α → β) (w : World) (l : List α) (h : ∀ x ∈ l, (f x).run P w = .ok (g x) w) : (l.toArray.mapM f).run P w = .ok (l.map g).toArray w := by
  rw [List.mapM_toArray]
  show Sem.run P (List.toArray <$> l.mapM f) w = _
  rw [map_eq_pure_bind]
  simp only [Sem.run_bind, run_mapM_list f g w l h, Result.andThen_ok, Sem.run_pure]

def keccakOut (bytes : Array Nat) : List Value :=
  let lanes := (Array.range 25).map fun i => (List.range 8).foldr (fun j acc => acc * 256 + bytes.getD (8 * i + j) 0) 0
  let out := Extern.Keccak.roundConstants.foldl Extern.Keccak.round lanes
  (List.range 200).map fun k => .int .u8 (Int.ofNat (out.getD (k / 8) 0 / 256 ^ (k % 8) % 256))
def keccakBody (p : Value) : Sem Value := do
  let a ← asAddr p
  let bytes ← (← loadCells a 200).mapM fun c => do pure (← asInt c).toNat
  storeCells a (keccakOut bytes)
  pure (.tuple #[])
theorem keccak_eq (p : Value) : Extern.Keccak.keccakF1600 #[p] = keccakBody p := by kernel_rfl

theorem bytes_one (l : Bs) : ∀ v ∈ l.map bv, v.oneCell' = true := fun u hu => by
  obtain ⟨_, _, rfl⟩ := List.mem_map.1 hu
  rfl
theorem run_keccak {P : Program} {w : World} {b T : Nat} {ext : List Value} {d : Dg} (h : DgAt w b T ext d) :
    ∃ w', (Extern.Keccak.keccakF1600 #[.pointer (some ⟨b, 0, none⟩)]).run P w = .ok (.tuple #[]) w' ∧ DgAt w' b T ext { d with a := kf d.a } ∧ Fr [b] w w' := by
  have hld : (loadCells ⟨b, 0, none⟩ 200).run P w = .ok (d.a.map bv).toArray w := by
    have := run_loadCells_list (P := P) w ⟨b, 0, none⟩ (d.a.map bv) (fun j v hv => by
      have hj : j < 200 := by
        have := (List.getElem?_eq_some_iff.1 hv).1
        simpa [h.1] using this
      have hadd : (⟨b, 0, none⟩ : Addr).add j = ⟨b, j, none⟩ := by unfold Addr.add; split <;> simp_all
      rw [hadd, h.byte hj, ← hv]
      simp [bv, List.getElem?_eq_getElem (show j < d.a.length by rw [h.1]; exact hj)])
    rwa [show (d.a.map bv).length = 200 by simp [h.1]] at this
  have hmp := run_mapM_arr (P := P) (fun c => do pure (← asInt c).toNat) (fun v => match v with | .int _ n => n.toNat | _ => 0) w (d.a.map bv) (fun x hx => by
    obtain ⟨y, _, rfl⟩ := List.mem_map.1 hx
    rfl)
  have hst := run_storeCells_at P b 0 T ((kf d.a).map bv) 0 _ w h.2 (by simp [Dg.cells, h.1, kf_length]) (bytes_one _)
  refine ⟨_, ?_, h.setRow (kf d.a) (kf_length _), (Fr.refl _ _).setRow _ _ (.inr (by simp))⟩
  rw [keccak_eq]
  unfold keccakBody
  simp only [asAddr, Sem.run_bind, Sem.run_pure, Result.andThen_ok, hld]
  rw [hmp]
  simp only [Result.andThen_ok]
  have e : keccakOut ((d.a.map bv).map fun v => match v with | .int _ n => n.toNat | _ => 0).toArray = (kf d.a).map bv := by
    unfold kf keccakOut
    simp only [List.map_map]
    have hb : ∀ j, ((d.a.map bv).map fun v => match v with | .int _ n => n.toNat | _ => 0).toArray.getD j 0 = (d.a.getD j 0).toNat := fun j => by
      simp only [Array.getD_eq_getD_getElem?, List.getElem?_toArray, List.getD_eq_getElem?_getD, List.getElem?_map]
      cases hj : d.a[j]? <;> simp [bv]
    simp only [List.map_map] at hb
    simp only [hb]
    apply List.map_congr_left
    intro k _
    simp only [Function.comp, bv]
    rw [UInt8.toNat_ofNat', Nat.mod_mod_of_dvd _ (by decide)]
    rfl
  rw [e, hst]
  simp only [Result.andThen_ok]
end Go.Sha
