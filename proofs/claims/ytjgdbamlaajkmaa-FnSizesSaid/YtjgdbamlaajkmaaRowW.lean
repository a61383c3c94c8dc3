/- Laws for whole rows of bools that are laid, loaded and stored at once. No condition. -/
import Derived.Test.YtjgdbamlaajkmaaBits
import Derived.Test.YtjgdbamlaajkmaaPerm
namespace Go.Sha
open Go.RowKit
section
variable {P : Program} {w : World}
theorem wpList_alloc_row {ops : Array Oper} {rest : List Oper} {o : Oper} {a : Act} {Q : Exit → Act → World → Prop} (hgd : o.guard = none) (t : TypeId) (ho : o.op = .alloc t)
    (cs : Array Value) (hz : ((P.info? t).bind (·.zero)).map (·.cells) = some cs) (h : wpList P ops Q rest (a.put o.dst (.pointer (some ⟨w.heap.size, 0, none⟩))) (w.alloc (.cells cs t))) : wpList P ops Q (o :: rest) a w := by
  refine wpList_plain hgd fun K hK => ?_
  cases hi : P.info? t with
  | none => rw [hi] at hz; cases hz
  | some i =>
    rw [hi] at hz
    cases hz0 : i.zero with
    | none => simp [hz0] at hz
    | some z =>
      simp [hz0] at hz
      subst hz
      unfold Oper.wp execOp
      simp only [ho, Instr.alloc, zeroValue, typeInfo, newVar, newRow, Sem.run_bind, Sem.run_pure, Result.andThen_ok, run_program, hi, hz0, run_newObj_alloc]
      exact hK _ _ h
theorem wpList_box_row {ops : Array Oper} {rest : List Oper} {o : Oper} {a : Act} {Q : Exit → Act → World → Prop} (hgd : o.guard = none) (t : TypeId) (x : Operand) (ho : o.op = .box t x)
    (cs : Array Value) (hx : a.eval x = .agg cs) (h : wpList P ops Q rest (a.put o.dst (.pointer (some ⟨w.heap.size, 0, none⟩))) (w.alloc (.cells cs t))) : wpList P ops Q (o :: rest) a w := by
  refine wpList_plain hgd fun K hK => ?_
  unfold Oper.wp execOp
  simp only [ho, hx, Instr.box, newVar, newRow, Value.cells, Sem.run_bind, Sem.run_pure, Result.andThen_ok, run_newObj_alloc]
  exact hK _ _ h
theorem wpList_store_bits {ops : Array Oper} {rest : List Oper} {o : Oper} {a : Act} {Q : Exit → Act → World → Prop} (hgd : o.guard = none) (ty : TypeId) (x y : Operand) (ho : o.op = .store ty x y)
    (g : Nat) (hx : a.eval x = .pointer (some ⟨g, 0, none⟩)) (t : TypeId) (cs cur : Array Value) (hy : a.eval y = .agg cs) (hg : w.heap[g]? = some (.cells cur t (0, 0))) (hs : cs.size = cur.size)
    (h1 : ∀ v ∈ cs.toList, v.oneCell' = true) (hi : (P.info? ty).map (·.size) = some cs.size) (h : wpList P ops Q rest (a.put o.dst undef) (w.setRow g cs)) : wpList P ops Q (o :: rest) a w := by
  refine wpList_plain hgd fun K hK => ?_
  cases hj : P.info? ty with
  | none => rw [hj] at hi; cases hi
  | some i =>
    rw [hj] at hi
    simp only [Option.map_some, Option.some.injEq] at hi
    have hst := run_storeCells_at P g 0 t cs.toList 0 cur w hg (by simp [hs]) h1
    have e : (List.take (0 + 0) cur.toList ++ cs.toList ++ List.drop (0 + 0 + cs.toList.length) cur.toList).toArray = cs := by
      rw [List.drop_of_length_le (by simp [hs])]
      simp
    rw [e] at hst
    unfold Oper.wp execOp
    simp only [ho, hx, hy, Instr.storeAt, Instr.sureAddr, storeVar, sizeOf, typeInfo, Value.cells, Sem.run_bind, Sem.run_pure, Result.andThen_ok, run_program, hj, hi, ne_eq, not_true_eq_false, if_false, hst]
    exact hK _ _ h
/-- a step of a head that changes nothing, by its run -/
theorem wpStill_run {ops : Array Oper} {rest : List Oper} {o : Oper} {a : Act} {Q : Act → Prop} {v : Value} (hgd : o.guard = none) (hr : (execOp a.eval o).run P w = .ok (.value v) w) (h : wpStill P ops w Q rest (a.put o.dst v)) : wpStill P ops w Q (o :: rest) a := by
  refine wpStill_step fun K hK => ?_
  simp only [Region.wanted, hgd, if_true, Oper.still, hr, Oper.stillUpon_value]
  exact hK _ h
/-- a guarded step that is not wanted -/
theorem wpStill_skip {ops : Array Oper} {rest : List Oper} {o : Oper} {a : Act} {Q : Act → Prop} (hw : Region.wanted o (yielded ops a.tmps) = false) (h : wpStill P ops w Q rest (a.put o.dst undef)) : wpStill P ops w Q (o :: rest) a := by
  refine wpStill_step fun K hK => ?_
  rw [hw]
  simp only [Bool.false_eq_true, if_false]
  exact hK _ h
theorem wpStill_skip_at {ops : Array Oper} {rest : List Oper} {o : Oper} {a : Act} {Q : Act → Prop} (j t : Nat) (b : Bool) (hg : o.guard = some (j, b)) (hj : (ops[j]?).bind (·.dst) = some t) (ht : a.tmps[t]? = some (.bool (!b))) (h : wpStill P ops w Q rest (a.put o.dst undef)) : wpStill P ops w Q (o :: rest) a := by
  refine wpStill_skip ?_ h
  simp only [Region.wanted, hg, yielded, hj, Option.bind_some, ht]
  cases b <;> rfl
end
/-- a counter up to m, and what holds at its place -/
def InRel (R : Nat → World → Prop) (m : Nat) (f : Nat → Nat) (i : Value) (wr : World) : Prop := ∃ k : Nat, k ≤ m ∧ i = .int .i64 k ∧ R (f k) wr
theorem InRel.mk {R : Nat → World → Prop} {m : Nat} {f : Nat → Nat} {wr : World} {i : Value} (k j : Nat) (hk : k ≤ m) (hi : i = .int .i64 k) (hj : f k = j) (h : R j wr) : InRel R m f i wr := ⟨k, hk, hi, hj ▸ h⟩
theorem InRel.succ {R : Nat → World → Prop} {m : Nat} {f : Nat → Nat} {wr : World} {k : Nat} (hk : k < m) (hf : f (k + 1) = f k + 1) (h : R (f k + 1) wr) : InRel R m f (.int .i64 ((k : Int) + 1)) wr ∧ m - (intOf (.int .i64 ((k : Int) + 1))).toNat < m - (intOf (.int .i64 (k : Int))).toNat := ⟨⟨k + 1, hk, by simp, hf ▸ h⟩, by simp only [intOf]; omega⟩
/-- N bools, as one value -/
def aggB (N : Nat) (c : Nat → Bool) : Value := .agg (bcells N c)
theorem aggB_congr (N : Nat) {c c' : Nat → Bool} (h : ∀ i, i < N → c i = c' i) : aggB N c = aggB N c' := by
  unfold aggB
  rw [bcells_congr N h]
theorem BoolsAt.setRow {w : World} {g T N : Nat} {c : Nat → Bool} (h : BoolsAt w g T N c) (c' : Nat → Bool) : BoolsAt (w.setRow g (bcells N c')) g T N c' := setRow_heap _ _ _ _ _ _ h
end Go.Sha
