/- The hashes of package sha3: New, init, Write, Sum, Reset, Size, BlockSize. No condition but on lengths. -/
import Derived.Test.YtjgdbamlaajkmaaSumG
namespace Go.Sha
open Go.RowKit
section
variable {P : Program} {w : World}
theorem wpList_build0 {ops : Array Oper} {rest : List Oper} {o : Oper} {a : Act} {Q : Exit → Act → World → Prop} (hg : o.guard = none) (t : TypeId)  (ho : o.op = .build t #[]) 
    (cells : Array Value) (hb : P.built t [] = some cells) (h : wpList P ops Q rest (a.put o.dst (.agg cells)) w) : wpList P ops Q (o :: rest) a w := by
  skip
  exact wpList_build hg t _ ho (by simp [hb]) (by simpa [hb] using h)
theorem wpList_build1 {ops : Array Oper} {rest : List Oper} {o : Oper} {a : Act} {Q : Exit → Act → World → Prop} (hg : o.guard = none) (t : TypeId) (k0 : Nat) (x0 : Operand) (v0 : Value) (ho : o.op = .build t #[(k0, x0)]) (hx0 : a.eval x0 = v0)
    (cells : Array Value) (hb : P.built t [(k0, v0)] = some cells) (h : wpList P ops Q rest (a.put o.dst (.agg cells)) w) : wpList P ops Q (o :: rest) a w := by
  subst hx0
  exact wpList_build hg t _ ho (by simp [hb]) (by simpa [hb] using h)
theorem wpList_build2 {ops : Array Oper} {rest : List Oper} {o : Oper} {a : Act} {Q : Exit → Act → World → Prop} (hg : o.guard = none) (t : TypeId) (k0 : Nat) (x0 : Operand) (v0 : Value) (k1 : Nat) (x1 : Operand) (v1 : Value) (ho : o.op = .build t #[(k0, x0), (k1, x1)]) (hx0 : a.eval x0 = v0) (hx1 : a.eval x1 = v1)
    (cells : Array Value) (hb : P.built t [(k0, v0), (k1, v1)] = some cells) (h : wpList P ops Q rest (a.put o.dst (.agg cells)) w) : wpList P ops Q (o :: rest) a w := by
  subst hx0; subst hx1
  exact wpList_build hg t _ ho (by simp [hb]) (by simpa [hb] using h)
theorem wpList_build3 {ops : Array Oper} {rest : List Oper} {o : Oper} {a : Act} {Q : Exit → Act → World → Prop} (hg : o.guard = none) (t : TypeId) (k0 : Nat) (x0 : Operand) (v0 : Value) (k1 : Nat) (x1 : Operand) (v1 : Value) (k2 : Nat) (x2 : Operand) (v2 : Value) (ho : o.op = .build t #[(k0, x0), (k1, x1), (k2, x2)]) (hx0 : a.eval x0 = v0) (hx1 : a.eval x1 = v1) (hx2 : a.eval x2 = v2)
    (cells : Array Value) (hb : P.built t [(k0, v0), (k1, v1), (k2, v2)] = some cells) (h : wpList P ops Q rest (a.put o.dst (.agg cells)) w) : wpList P ops Q (o :: rest) a w := by
  subst hx0; subst hx1; subst hx2
  exact wpList_build hg t _ ho (by simp [hb]) (by simpa [hb] using h)
/-- clear of the sponge's bytes -/
theorem wpList_clear_bytes {ops : Array Oper} {rest : List Oper} {o : Oper} {a : Act} {Q : Exit → Act → World → Prop} (hgd : o.guard = none) (s : Operand) (t e : TypeId)
    (ho : o.op = .call { callee := .builtin .clear, args := #[s], argTypes := #[t] }) (ht : P.underlying t = some (.slice e)) (hz : (zeroValue e).run P w = .ok (.int .u8 0) w)
    {b T : Nat} {ext : List Value} {d : Dg} (h : DgAt w b T ext d) (c : Nat) (hs : a.eval s = .slice (some ⟨b, 0, none⟩) 200 c)
    (hK : ∀ w', DgAt w' b T ext { d with a := List.replicate 200 0 } → Fr [b] w w' → wpList P ops Q rest (a.put o.dst (.tuple #[])) w') : wpList P ops Q (o :: rest) a w := by
  refine wpList_plain hgd fun K hK' => ?_
  have e1 : (Builtin.zeroCells (Value.int .u8 0).cells 200).toList = (List.replicate 200 (0 : UInt8)).map bv := by kernel_rfl
  have hst := run_storeCells_at P b 0 T ((List.replicate 200 (0 : UInt8)).map bv) 0 _ w h.2 (by rw [List.length_map, List.length_replicate, List.size_toArray, List.length_append, Dg.cells_length d h.1]; omega) (bytes_one _)
  have hr : (Builtin.clear_ #[t] o.type #[.slice (some ⟨b, 0, none⟩) 200 c]).run P w = .ok (.tuple #[]) (w.setRow b ((d.cells ++ ext).toArray.toList.take (0 + 0) ++ (List.replicate 200 (0 : UInt8)).map bv ++ (d.cells ++ ext).toArray.toList.drop (0 + 0 + ((List.replicate 200 (0 : UInt8)).map bv).length)).toArray) := by
    simp only [Builtin.clear_, Sem.run_bind, run_underlying ht, Result.andThen_ok, hz, e1, hst, Sem.run_pure, List.getElem?_toArray, List.getElem?_cons_zero]
  unfold Oper.wp execOp
  simp only [ho, resolve, invoke, builtin, Sem.run_bind, Sem.run_pure, Result.andThen_ok, List.map_toArray, List.map_cons, List.map_nil, hs, hr]
  exact hK' _ _ (hK _ (h.setRow (List.replicate 200 0) List.length_replicate) ((Fr.refl _ _).setRow _ _ (.inr (by simp))))
end
/-- a pointer to a new block that holds the sponge d -/
def RetP (T : Nat) (d : Dg) (w : World) (e : Ending) (w' : World) : Prop := ∃ g, e = .returned (.pointer (some ⟨g, 0, none⟩)) ∧ w.heap.size ≤ g ∧ g < w'.heap.size ∧ DgAt w' g T [] d ∧ Fr [] w w'
/-- a hash with rate r and size o to which data has been written lies in block b: it may be the zero value still -/
def HsAt (w : World) (b T r o : Nat) (data : Bs) : Prop := DgAt w b T [] (absorb (newD r o 6) data) ∨ (r = 136 ∧ o = 32 ∧ data = [] ∧ DgAt w b T [] (newD 0 0 0))
theorem HsAt.keep {S : List Nat} {w w' : World} {b T r o : Nat} {data : Bs} (h : HsAt w b T r o data) (hf : Fr S w w') (hb : b ∉ S) : HsAt w' b T r o data := by
  rcases h with h | ⟨h1, h2, h3, h4⟩
  · exact .inl (h.keep hf hb)
  · exact .inr ⟨h1, h2, h3, h4.keep hf hb⟩
theorem HsAt.lt {w : World} {b T r o : Nat} {data : Bs} (h : HsAt w b T r o data) : b < w.heap.size := by
  rcases h with h | ⟨_, _, _, h⟩ <;> exact h.lt
/-- the rates and sizes of the four hashes -/
structure Rt (r o : Nat) : Prop where
  rpos : 0 < r
  rle : r ≤ 168
  opos : 0 < o
  ole : o ≤ 64
theorem Rt.abs {r o : Nat} (h : Rt r o) (data : Bs) : (absorb (newD r o 6) data).Ok ∧ (absorb (newD r o 6) data).rate = r ∧ (absorb (newD r o 6) data).ds = 6 ∧ (absorb (newD r o 6) data).out = o ∧ (absorb (newD r o 6) data).st = 0 := absorb_ok (newD_ok r o 6 h.rpos h.rle) data
end Go.Sha
namespace Go.Proofs.Ytjgdbamlaajkmaa
open Go.ChangeShapes Go.WideShapes Go.ChangeAt Go.RowKit Go.Sha
theorem sizeSH : (Try.prog.info? 60).map (·.size) = some 205 := by kernel_rfl
theorem zeroU8 (w : World) : (zeroValue 5).run Try.prog w = .ok (.int .u8 0) w := by kernel_rfl

set_option maxRecDepth 100000 in
theorem libNew224_any (w : World) : Calls Try.prog 32 #[] w (RetP 60 (newD 144 28 6) w) := by
  have hb : Try.prog.built 60 [(0, .agg (newD 144 28 6).cells.toArray)] = some (newD 144 28 6).cells.toArray := by kernel_rfl
  go_enter Try.func32, Try.ntmps32
  go_wp2_with fail
  refine (New224_any w).mono ?_
  rintro e w1 ⟨rfl, D1, f1, z1⟩
  have H1 : Hid (w1.heap[w.heap.size]? = some (.cells (newD 144 28 6).cells.toArray 58 (0, 0))) := by have := D1.2; rw [List.append_nil] at this; exact this
  obtain ⟨C, hC⟩ : ∃ C, C = (newD 144 28 6).cells.toArray := ⟨_, rfl⟩
  have hs : Hid (C.size = 205) := by show _ = _; rw [hC, List.size_toArray, Dg.cells_length _ List.length_replicate]
  rw [← hC] at H1 hb
  have HC := Lib.hid hC
  have HBB := Lib.hid hb
  clear D1 hC hb z1
  go_wp2_with (refine wpList_load_row rfl _ _ rfl w.heap.size rfl _ C (0, 0) _ H1.out Try.underlying58 rfl (by rw [hs.out]; exact sizeDg) ?_; refine Hid.out ?_)
  show wpList _ _ _ _ _ _
  refine wpList_build1 rfl 60 0 _ (.agg C) rfl rfl C HBB.out ?_
  refine wpList_box_row rfl _ _ rfl C rfl ?_
  have D2 : DgAt (w1.alloc (.cells C 60)) w1.heap.size 60 [] (newD 144 28 6) := ⟨List.length_replicate, by rw [HC.out, List.append_nil]; exact Go.heap_alloc_new w1 _⟩
  have f2 : Fr [] w (w1.alloc (.cells C 60)) := f1.alloc _
  have z2 : w1.heap.size < (w1.alloc (.cells C 60)).heap.size := by simp
  generalize w1.alloc (.cells C 60) = w2 at D2 f2 z2 ⊢
  have H2 := Lib.hid D2
  clear D2
  go_wp2_with fail
  go_ret
  exact ⟨_, rfl, f1.size, z2, H2.out, f2⟩

set_option maxRecDepth 100000 in
theorem libNew256_any (w : World) : Calls Try.prog 33 #[] w (RetP 60 (newD 136 32 6) w) := by
  have hb : Try.prog.built 60 [(0, .agg (newD 136 32 6).cells.toArray)] = some (newD 136 32 6).cells.toArray := by kernel_rfl
  go_enter Try.func33, Try.ntmps33
  go_wp2_with fail
  refine (New256_any w).mono ?_
  rintro e w1 ⟨rfl, D1, f1, z1⟩
  have H1 : Hid (w1.heap[w.heap.size]? = some (.cells (newD 136 32 6).cells.toArray 58 (0, 0))) := by have := D1.2; rw [List.append_nil] at this; exact this
  obtain ⟨C, hC⟩ : ∃ C, C = (newD 136 32 6).cells.toArray := ⟨_, rfl⟩
  have hs : Hid (C.size = 205) := by show _ = _; rw [hC, List.size_toArray, Dg.cells_length _ List.length_replicate]
  rw [← hC] at H1 hb
  have HC := Lib.hid hC
  have HBB := Lib.hid hb
  clear D1 hC hb z1
  go_wp2_with (refine wpList_load_row rfl _ _ rfl w.heap.size rfl _ C (0, 0) _ H1.out Try.underlying58 rfl (by rw [hs.out]; exact sizeDg) ?_; refine Hid.out ?_)
  show wpList _ _ _ _ _ _
  refine wpList_build1 rfl 60 0 _ (.agg C) rfl rfl C HBB.out ?_
  refine wpList_box_row rfl _ _ rfl C rfl ?_
  have D2 : DgAt (w1.alloc (.cells C 60)) w1.heap.size 60 [] (newD 136 32 6) := ⟨List.length_replicate, by rw [HC.out, List.append_nil]; exact Go.heap_alloc_new w1 _⟩
  have f2 : Fr [] w (w1.alloc (.cells C 60)) := f1.alloc _
  have z2 : w1.heap.size < (w1.alloc (.cells C 60)).heap.size := by simp
  generalize w1.alloc (.cells C 60) = w2 at D2 f2 z2 ⊢
  have H2 := Lib.hid D2
  clear D2
  go_wp2_with fail
  go_ret
  exact ⟨_, rfl, f1.size, z2, H2.out, f2⟩

set_option maxRecDepth 100000 in
theorem libNew384_any (w : World) : Calls Try.prog 34 #[] w (RetP 60 (newD 104 48 6) w) := by
  have hb : Try.prog.built 60 [(0, .agg (newD 104 48 6).cells.toArray)] = some (newD 104 48 6).cells.toArray := by kernel_rfl
  go_enter Try.func34, Try.ntmps34
  go_wp2_with fail
  refine (New384_any w).mono ?_
  rintro e w1 ⟨rfl, D1, f1, z1⟩
  have H1 : Hid (w1.heap[w.heap.size]? = some (.cells (newD 104 48 6).cells.toArray 58 (0, 0))) := by have := D1.2; rw [List.append_nil] at this; exact this
  obtain ⟨C, hC⟩ : ∃ C, C = (newD 104 48 6).cells.toArray := ⟨_, rfl⟩
  have hs : Hid (C.size = 205) := by show _ = _; rw [hC, List.size_toArray, Dg.cells_length _ List.length_replicate]
  rw [← hC] at H1 hb
  have HC := Lib.hid hC
  have HBB := Lib.hid hb
  clear D1 hC hb z1
  go_wp2_with (refine wpList_load_row rfl _ _ rfl w.heap.size rfl _ C (0, 0) _ H1.out Try.underlying58 rfl (by rw [hs.out]; exact sizeDg) ?_; refine Hid.out ?_)
  show wpList _ _ _ _ _ _
  refine wpList_build1 rfl 60 0 _ (.agg C) rfl rfl C HBB.out ?_
  refine wpList_box_row rfl _ _ rfl C rfl ?_
  have D2 : DgAt (w1.alloc (.cells C 60)) w1.heap.size 60 [] (newD 104 48 6) := ⟨List.length_replicate, by rw [HC.out, List.append_nil]; exact Go.heap_alloc_new w1 _⟩
  have f2 : Fr [] w (w1.alloc (.cells C 60)) := f1.alloc _
  have z2 : w1.heap.size < (w1.alloc (.cells C 60)).heap.size := by simp
  generalize w1.alloc (.cells C 60) = w2 at D2 f2 z2 ⊢
  have H2 := Lib.hid D2
  clear D2
  go_wp2_with fail
  go_ret
  exact ⟨_, rfl, f1.size, z2, H2.out, f2⟩

set_option maxRecDepth 100000 in
theorem libNew512_any (w : World) : Calls Try.prog 35 #[] w (RetP 60 (newD 72 64 6) w) := by
  have hb : Try.prog.built 60 [(0, .agg (newD 72 64 6).cells.toArray)] = some (newD 72 64 6).cells.toArray := by kernel_rfl
  go_enter Try.func35, Try.ntmps35
  go_wp2_with fail
  refine (New512_any w).mono ?_
  rintro e w1 ⟨rfl, D1, f1, z1⟩
  have H1 : Hid (w1.heap[w.heap.size]? = some (.cells (newD 72 64 6).cells.toArray 58 (0, 0))) := by have := D1.2; rw [List.append_nil] at this; exact this
  obtain ⟨C, hC⟩ : ∃ C, C = (newD 72 64 6).cells.toArray := ⟨_, rfl⟩
  have hs : Hid (C.size = 205) := by show _ = _; rw [hC, List.size_toArray, Dg.cells_length _ List.length_replicate]
  rw [← hC] at H1 hb
  have HC := Lib.hid hC
  have HBB := Lib.hid hb
  clear D1 hC hb z1
  go_wp2_with (refine wpList_load_row rfl _ _ rfl w.heap.size rfl _ C (0, 0) _ H1.out Try.underlying58 rfl (by rw [hs.out]; exact sizeDg) ?_; refine Hid.out ?_)
  show wpList _ _ _ _ _ _
  refine wpList_build1 rfl 60 0 _ (.agg C) rfl rfl C HBB.out ?_
  refine wpList_box_row rfl _ _ rfl C rfl ?_
  have D2 : DgAt (w1.alloc (.cells C 60)) w1.heap.size 60 [] (newD 72 64 6) := ⟨List.length_replicate, by rw [HC.out, List.append_nil]; exact Go.heap_alloc_new w1 _⟩
  have f2 : Fr [] w (w1.alloc (.cells C 60)) := f1.alloc _
  have z2 : w1.heap.size < (w1.alloc (.cells C 60)).heap.size := by simp
  generalize w1.alloc (.cells C 60) = w2 at D2 f2 z2 ⊢
  have H2 := Lib.hid D2
  clear D2
  go_wp2_with fail
  go_ret
  exact ⟨_, rfl, f1.size, z2, H2.out, f2⟩

theorem dSize_any (w : World) (b T : Nat) (d : Dg) (h : DgAt w b T [] d) : Calls Try.prog 57 #[.pointer (some ⟨b, 0, none⟩)] w fun e w' => e = .returned (.int .i64 (d.out : Int)) ∧ w' = w := by
  have q := h.cout
  go_enter Try.func57, Try.ntmps57
  go_wp2_with fail
  go_ret
  exact ⟨rfl, rfl⟩

theorem dBlockSize_any (w : World) (b T : Nat) (d : Dg) (h : DgAt w b T [] d) : Calls Try.prog 58 #[.pointer (some ⟨b, 0, none⟩)] w fun e w' => e = .returned (.int .i64 (d.rate : Int)) ∧ w' = w := by
  have q := h.crate
  go_enter Try.func58, Try.ntmps58
  go_wp2_with fail
  go_ret
  exact ⟨rfl, rfl⟩

set_option maxRecDepth 100000 in
theorem dReset_any (w : World) (b T : Nat) (d : Dg) (h : DgAt w b T [] d) : Calls Try.prog 56 #[.pointer (some ⟨b, 0, none⟩)] w (RetD (.tuple #[]) b T [] { d with a := List.replicate 200 0, n := 0, st := 0 } w) := by
  have HD := Lib.hid h
  clear h
  go_enter Try.func56, Try.ntmps56
  go_wp2_with (refine wpList_clear_bytes rfl _ 22 5 rfl Try.underlying22 (zeroU8 _) HD.out _ rfl ?_)
  intro w1 D1 f1
  have q1 := D1.cst
  have q2 := D1.fz 204
  have D2 : DgAt (w1.setCell ⟨b, 204, none⟩ (.int .i64 0)) b T [] _ := D1.setSt 0
  have q3 := D2.cn
  have q4 := D2.fz 200
  have D3 : DgAt ((w1.setCell ⟨b, 204, none⟩ (.int .i64 0)).setCell ⟨b, 200, none⟩ (.int .i64 0)) b T [] _ := D2.setN 0
  have H3 := Lib.hid D3
  clear D1 D2 D3 HD
  go_wp2_with fail
  go_end0
  exact ⟨rfl, H3.out, (f1.setCell _ _ (.inr (by simp))).setCell _ _ (.inr (by simp))⟩

/-- a zero value becomes a new SHA3-256 -/
theorem init_any (w : World) (b r o : Nat) (data : Bs) (hr : Rt r o) (h : HsAt w b 60 r o data) :
    Calls Try.prog 53 #[.pointer (some ⟨b, 0, none⟩)] w (RetD (.tuple #[]) b 60 [] (absorb (newD r o 6) data) w) := by
  rcases h with h | ⟨rfl, rfl, rfl, h⟩
  · have ha := hr.abs data
    have ho : ((absorb (newD r o 6) data).out : Int) ≠ 0 := by rw [ha.2.2.2.1]; have := hr.opos; omega
    generalize absorb (newD r o 6) data = d at h ho
    have hb : ((d.out : Int) == 0) = false := by rw [beq_eq_false_iff_ne]; exact ho
    clear ho
    go_enter Try.func53, Try.ntmps53
    go_wp2_with fail
    refine (dSize_any w b 60 d h).mono ?_
    rintro e w' ⟨rfl, rfl⟩
    go_wp2_with fail
    go_end0
    exact ⟨rfl, h, Fr.refl _ _⟩
  · go_enter Try.func53, Try.ntmps53
    go_wp2_with fail
    refine (dSize_any w b 60 _ h).mono ?_
    rintro e w' ⟨rfl, rfl⟩
    go_wp2_with fail
    refine (libNew256_any w').mono ?_
    rintro e w1 ⟨g, rfl, hg, hgw, D1, f1⟩
    have hbw := h.lt
    have H1 : Hid (w1.heap[g]? = some (.cells (newD 136 32 6).cells.toArray 60 (0, 0))) := by have := D1.2; rw [List.append_nil] at this; exact this
    have H0 : Hid (w1.heap[b]? = some (.cells (newD 0 0 0).cells.toArray 60 (0, 0))) := by have := (h.keep f1 (by simp)).2; rw [List.append_nil] at this; exact this
    obtain ⟨C, hC⟩ : ∃ C, C = (newD 136 32 6).cells.toArray := ⟨_, rfl⟩
    obtain ⟨Z, hZ⟩ : ∃ Z, Z = (newD 0 0 0).cells.toArray := ⟨_, rfl⟩
    have hs : Hid (C.size = 205 ∧ Z.size = 205 ∧ ∀ v ∈ C.toList, v.oneCell' = true) := by
      rw [hC, hZ]
      exact ⟨by rw [List.size_toArray, Dg.cells_length _ List.length_replicate], by rw [List.size_toArray, Dg.cells_length _ List.length_replicate], fun v hv => (newD 136 32 6).cells_one v (by simpa using hv)⟩
    rw [← hC] at H1
    rw [← hZ] at H0
    have HC := Lib.hid hC
    clear D1 hC hZ
    go_wp2_with (refine wpList_load_row rfl _ _ rfl g rfl _ C (0, 0) _ H1.out Try.underlying60 rfl (by rw [hs.out.1]; exact sizeSH) ?_; refine Hid.out ?_)
    show wpList _ _ _ _ _ _
    go_wp2_with (refine wpList_store_bits rfl _ _ _ rfl b rfl 60 C Z rfl H0.out (by rw [hs.out.1, hs.out.2.1]) hs.out.2.2 (by rw [hs.out.1]; exact sizeSH) ?_; refine Hid.out ?_)
    show wpList _ _ _ _ _ _
    have D2 : DgAt (w1.setRow b C) b 60 [] (newD 136 32 6) := ⟨List.length_replicate, by rw [List.append_nil, ← HC.out]; exact setRow_heap _ _ _ _ _ _ H0.out⟩
    have f2 : Fr [b] w' (w1.setRow b C) := (f1.mono (by simp)).setRow _ _ (.inr (by simp))
    generalize w1.setRow b C = w2 at D2 f2 ⊢
    have H2 := Lib.hid D2
    clear D2
    go_wp2_with fail
    go_end0
    exact ⟨rfl, H2.out, f2⟩

end Go.Proofs.Ytjgdbamlaajkmaa
