/- Laws for a part of a row of bools that is loaded or stored at once. No condition. -/
import Derived.Test.YthlknckmhjnkjaaRowW
import Derived.Deep.MidRow
namespace Go.Sha
open Go.RowKit
section
variable {P : Program} {w : World}
theorem BoolsAt.part_run {g T N : Nat} {c : Nat → Bool} (h : BoolsAt w g T N c) (o n : Nat) (hn : o + n ≤ N) (ty : TypeId) (d : TypeDesc) (hu : P.underlying ty = some d) (hd : d.isRow = true) (hi : (P.info? ty).map (·.size) = some n) :
    (loadVar ty ⟨g, o, none⟩).run P w = .ok (.agg (bcells n fun i => c (o + i))) w := by
  have := run_loadVar_mid (P := P) w g o ty (bcells n fun i => c (o + i)).toList d (fun j v hv => by
    have hj : j < n := by
      have h1 := (List.getElem?_eq_some_iff.1 hv).1
      simpa [bcells_size] using h1
    rw [h.cell (i := o + j) (by omega)]
    rw [Array.getElem?_toList, bcells_get _ _ _ hj] at hv
    exact hv) hu hd (by simpa [bcells_size] using hi)
  simpa using this
theorem wpStill_load_part {ops : Array Oper} {rest : List Oper} {o : Oper} {a : Act} {Q : Act → Prop} (hgd : o.guard = none) (ty : TypeId) (x : Operand) (ho : o.op = .load ty x) (g off : Nat) (hx : a.eval x = .pointer (some ⟨g, off, none⟩))
    {T N : Nat} {c : Nat → Bool} (hb : BoolsAt w g T N c) (n : Nat) (hn : off + n ≤ N) (d : TypeDesc) (hu : P.underlying ty = some d) (hd : d.isRow = true) (hi : (P.info? ty).map (·.size) = some n)
    (h : wpStill P ops w Q rest (a.put o.dst (.agg (bcells n fun i => c (off + i))))) : wpStill P ops w Q (o :: rest) a := by
  refine wpStill_run hgd ?_ h
  unfold execOp
  simp only [ho, hx, Instr.loadAt, Instr.sureAddr, Sem.run_bind, Sem.run_pure, Result.andThen_ok, hb.part_run off n hn ty d hu hd hi]
theorem wpList_alloc_rowAt {ops : Array Oper} {rest : List Oper} {o : Oper} {a : Act} {Q : Exit → Act → World → Prop} (hgd : o.guard = none) (t : TypeId) (ho : o.op = .alloc t)
    (cs : Array Value) (hz : ((P.info? t).bind (·.zero)).map (·.cells) = some cs) (g : Nat) (hs : w.heap.size = g) (h : wpList P ops Q rest (a.put o.dst (.pointer (some ⟨g, 0, none⟩))) (w.alloc (.cells cs t))) : wpList P ops Q (o :: rest) a w := by
  subst hs
  exact wpList_alloc_row hgd t ho cs hz h
/-- a part of a row, stored -/
def updN (c : Nat → Bool) (o n : Nat) (v : Nat → Bool) : Nat → Bool := fun i => if o ≤ i ∧ i < o + n then v (i - o) else c i
theorem bcells_splice (N o n : Nat) (c v : Nat → Bool) (hn : o + n ≤ N) : (List.take o (bcells N c).toList ++ (bcells n v).toList ++ List.drop (o + n) (bcells N c).toList).toArray = bcells N (updN c o n v) := by
  apply Array.ext'
  apply List.ext_getElem?
  intro i
  have hs : ∀ (N : Nat) (c : Nat → Bool), (bcells N c).toList.length = N := fun N c => by simp [bcells_size]
  have hg : ∀ (N : Nat) (c : Nat → Bool) (i : Nat), (bcells N c).toList[i]? = if i < N then some (.bool (c i)) else none := fun N c i => by
    rw [Array.getElem?_toList]
    by_cases h : i < N
    · rw [if_pos h, bcells_get _ _ _ h]
    · rw [if_neg h, Array.getElem?_eq_none (by rw [bcells_size]; omega)]
  have ht : (List.take o (bcells N c).toList).length = o := by rw [List.length_take, hs]; omega
  have ht2 : (List.take o (bcells N c).toList ++ (bcells n v).toList).length = o + n := by rw [List.length_append, ht, hs]
  show (List.take o (bcells N c).toList ++ (bcells n v).toList ++ List.drop (o + n) (bcells N c).toList)[i]? = _
  rw [hg]
  by_cases h1 : i < o
  · rw [List.getElem?_append_left (by omega), List.getElem?_append_left (by omega), List.getElem?_take_of_lt h1, hg, if_pos (by omega), if_pos (by omega)]
    simp only [updN]
    rw [if_neg (by omega)]
  · by_cases h2 : i < o + n
    · rw [List.getElem?_append_left (by omega), List.getElem?_append_right (by omega), ht, hg, if_pos (by omega), if_pos (by omega)]
      simp only [updN]
      rw [if_pos (by omega)]
    · rw [List.getElem?_append_right (by omega), ht2, List.getElem?_drop, hg, show o + n + (i - (o + n)) = i by omega]
      by_cases h3 : i < N
      · rw [if_pos h3, if_pos h3]
        simp only [updN]
        rw [if_neg (by omega)]
      · rw [if_neg h3, if_neg h3]
theorem wpList_store_part {ops : Array Oper} {rest : List Oper} {o : Oper} {a : Act} {Q : Exit → Act → World → Prop} (hgd : o.guard = none) (ty : TypeId) (x y : Operand) (ho : o.op = .store ty x y)
    (g off : Nat) (hx : a.eval x = .pointer (some ⟨g, off, none⟩)) {T N n : Nat} {c v : Nat → Bool} (hy : a.eval y = .agg (bcells n v)) (hg : BoolsAt w g T N c) (hn : off + n ≤ N)
    (hi : (P.info? ty).map (·.size) = some n) (h : wpList P ops Q rest (a.put o.dst undef) (w.setRow g (bcells N (updN c off n v)))) : wpList P ops Q (o :: rest) a w := by
  refine wpList_plain hgd fun K hK => ?_
  cases hj : P.info? ty with
  | none => rw [hj] at hi; cases hi
  | some i =>
    rw [hj] at hi
    simp only [Option.map_some, Option.some.injEq] at hi
    have hst := run_storeCells_at P g off T (bcells n v).toList 0 (bcells N c) w hg (by simp [bcells_size]; omega) (bcells_one _ _)
    have e : (List.take (off + 0) (bcells N c).toList ++ (bcells n v).toList ++ List.drop (off + 0 + (bcells n v).toList.length) (bcells N c).toList).toArray = bcells N (updN c off n v) := by
      rw [show (bcells n v).toList.length = n by simp [bcells_size]]
      exact bcells_splice N off n c v hn
    rw [e] at hst
    unfold Oper.wp execOp
    simp only [ho, hx, hy, Instr.storeAt, Instr.sureAddr, storeVar, sizeOf, typeInfo, Value.cells, Sem.run_bind, Sem.run_pure, Result.andThen_ok, run_program, hj, hi, bcells_size, ne_eq, not_true_eq_false, if_false, hst]
    exact hK _ _ h
end
theorem BoolsAt.other_row {w : World} {g g' T N : Nat} {c : Nat → Bool} (h : BoolsAt w g T N c) (hg : g ≠ g') (cs : Array Value) : BoolsAt (w.setRow g' cs) g T N c := by
  unfold BoolsAt at *
  rw [setRow_other _ _ _ _ hg]
  exact h
end Go.Sha
