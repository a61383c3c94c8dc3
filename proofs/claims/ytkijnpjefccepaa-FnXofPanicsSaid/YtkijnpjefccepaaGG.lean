/- Contracts and lemmas, merged: SumG, SumN, Sha, ShaB, Mar, Unm, MarB. Their conditions stand in each. -/
import Derived.Test.YtkijnpjefccepaaGA
import Derived.Test.YtkijnpjefccepaaGB
import Derived.Test.YtkijnpjefccepaaGC
import Derived.Deep.RegionLaw
import Derived.Laws.BytesArg
section
namespace Go.Sha
open Go.RowKit
section
variable {P : Program} {w : World}
/-- append where there is room, to a block of whatever type -/
theorem wpList_append_fit {ops : Array Oper} {rest : List Oper} {o : Oper} {a : Act} {Q : Exit → Act → World → Prop} (hgd : o.guard = none) (s x : Operand) (t tx : TypeId)
    (ho : o.op = .call { callee := .builtin .append, args := #[s, x], argTypes := #[t, tx] })
    (e : TypeId) (i : TypeInfo) (ht : P.underlying t = some (.slice e)) (hi : P.info? e = some i) (hsize : i.size = 1)
    (g n c T : Nat) (cur : Array Value) (hs : a.eval s = .slice (some ⟨g, 0, none⟩) n c) (hg : w.heap[g]? = some (.cells cur T (0, 0)))
    (xv : Value) (m : Nat) (news : List Value) (hx : a.eval x = xv) (hsrc : Src P 1 tx xv m news w) (hroom : n + m ≤ c) (hfit : n + m ≤ cur.size)
    (cs' : Array Value) (he : (cur.toList.take n ++ news ++ cur.toList.drop (n + news.length)).toArray = cs')
    (h : wpList P ops Q rest (a.put o.dst (.slice (some ⟨g, 0, none⟩) (n + m) c)) (w.setRow g cs')) : wpList P ops Q (o :: rest) a w := by
  subst he
  refine wpList_plain hgd fun K hK => ?_
  have hnl : news.length = m := by simpa using hsrc.newsLen
  have hst := run_storeCells_at P g n T news 0 cur w hg (by rw [hnl]; omega) hsrc.one
  simp only [Nat.add_zero] at hst
  have hr : (Builtin.append_ #[t, tx] o.type #[.slice (some ⟨g, 0, none⟩) n c, xv]).run P w = .ok (.slice (some ⟨g, 0, none⟩) (n + m) c) (w.setRow g (cur.toList.take n ++ news ++ cur.toList.drop (n + news.length)).toArray) := by
    rcases hsrc.kind with ⟨e', hk⟩ | hk <;> simp [Builtin.append_, run_underlying ht, run_underlying hk, sizeOf, typeInfo, hi, hsize, hsrc.len, hroom, hsrc.cells, Addr.add_lit, hst]
  unfold Oper.wp execOp
  simp only [ho, resolve, invoke, builtin, Sem.run_bind, Sem.run_pure, Result.andThen_ok, List.map_toArray, List.map_cons, List.map_nil, hs, hx, hr]
  exact hK _ _ h
end
theorem Dg.cells_length (d : Dg) (h : d.a.length = 200) : d.cells.length = 205 := by simp [Dg.cells, h]
theorem Dg.cells_one (d : Dg) : ∀ v ∈ d.cells, v.oneCell' = true := fun v hv => by
  simp only [Dg.cells, List.mem_append, List.mem_map, List.mem_cons, List.not_mem_nil, or_false] at hv
  rcases hv with ⟨_, _, rfl⟩ | rfl | rfl | rfl | rfl | rfl <;> rfl
/-- the bytes of the hash -/
def hashD (d : Dg) : Bs := (squeeze d.out (padD d)).1
theorem hashD_length (d : Dg) : (hashD d).length = d.out := squeeze_length _ _
theorem Sl.of_splice {w : World} {g e c : Nat} {cur : Array Value} {l : Bs} (h : w.heap[g]? = some (.cells (splice cur 0 l) e (0, 0))) (_hc : cur.size = c) (hl : l.length ≤ c) (hm : c ≤ maxLen) : Sl w (some ⟨g, 0, none⟩) l.length c l := by
  refine ⟨rfl, hl, hm, .inr ⟨g, 0, rfl, fun i hi => ?_⟩⟩
  have e : (splice cur 0 l)[0 + i]? = some (.int .u8 (l.getD i 0).toNat) := by
    unfold splice
    simp only [List.take_zero, List.nil_append, Nat.zero_add, List.getElem?_toArray]
    rw [List.getElem?_append_left (by simpa using hi), List.getElem?_map, List.getElem?_eq_getElem hi, getD_at l i hi]
    rfl
  rw [cell_of h, e]
theorem Fr.via {B : List Nat} {w0 w w' : World} (h : Fr [] w0 w) (k : Fr B w w') (hb : ∀ x ∈ B, w0.heap.size ≤ x) : Fr [] w0 w' :=
  ((h.mono (by simp)).trans k : Fr B w0 w').mono (fun x hx hB => by have := hb x hB; omega)
end Go.Sha
namespace Go.Proofs.Ytkijnpjefccepaa
open Go.ChangeShapes Go.WideShapes Go.ChangeAt Go.RowKit Go.Sha
theorem Ow.row' {w : World} {base e n c : Nat} {a : Option Addr} {l : Bs} (h : Ow w base e a c l) (hn : l.length = n) : w.ownsRow base e 1 (.slice a n c) n (l.map bv) := by subst hn; exact h
theorem sizeDg : (Try.prog.info? 68).map (·.size) = some 205 := by kernel_rfl
theorem zeroDg : ((Try.prog.info? 68).bind (·.zero)).map (·.cells) = some ((newD 0 0 0).cells ++ []).toArray := by kernel_rfl

theorem make_cap (n c : Nat) (z : Int) (hz : z = c) (hn : n ≤ c) (hc : c ≤ 281474976710656) : ∀ u : World, (Instr.makeSlice 22 (.int .i64 (n : Int)) (.int .i64 z)).run Try.prog u =
    .ok (.slice (some ⟨u.heap.size, 0, none⟩) n c) (u.alloc (.cells (madeCells #[.int .u8 0] c) 5)) := fun u => by
  subst hz
  obtain ⟨i0, hi, hz0, hz1, hz2⟩ := info_parts info5
  have h := run_make (P := Try.prog) u 22 5 i0 (.int .u8 0) Try.underlying22 hi hz0 .i64 .i64 (n : Int) (c : Int) (by omega) (by omega) (by rw [hz2]; omega) (by omega)
  have e : ((n : Int)).toNat = n := by omega
  have e2 : ((c : Int)).toNat = c := by omega
  rw [e, e2] at h
  simpa [hz1, Value.cells] using h

end Go.Proofs.Ytkijnpjefccepaa
end

section
namespace Go.Sha
open Go.RowKit
theorem hashD_xof (r o : Nat) (ds : UInt8) (data : Bs) (h0 : 0 < r) (hr : r ≤ 168) : hashD (absorb (newD r o ds) data) = xof r o ds data o := by
  unfold hashD xof
  rw [(absorb_ok (newD_ok r o ds h0 hr) data).2.2.2.1]
  rfl
theorem splice_full (cur : Array Value) (l : Bs) (h : cur.size = l.length) : splice cur 0 l = (l.map bv).toArray := by
  unfold splice
  rw [List.drop_of_length_le (by simp [h])]
  simp
theorem bytes_cells_one (l : Bs) : ∀ v ∈ (l.map bv).toArray.toList, v.oneCell' = true := fun v hv => bytes_one l v (by simpa using hv)
/-- a block of just these bytes -/
def BkAt (w : World) (g T : Nat) (l : Bs) : Prop := w.heap[g]? = some (.cells (l.map bv).toArray T (0, 0))
theorem BkAt.sl {w : World} {g T n : Nat} {l : Bs} (h : BkAt w g T l) (hn : l.length = n) (hm : n ≤ maxLen) : Sl w (some ⟨g, 0, none⟩) n n l := by
  subst hn
  refine ⟨rfl, Nat.le_refl _, hm, .inr ⟨g, 0, rfl, fun i hi => ?_⟩⟩
  rw [cell_of h]
  simp [List.getElem?_eq_getElem hi, bv]
theorem BkAt.keep {S : List Nat} {w w' : World} {g T : Nat} {l : Bs} (h : BkAt w g T l) (hf : Fr S w w') (hg : g ∉ S) : BkAt w' g T l := hf.obj h hg
end Go.Sha
namespace Go.Proofs.Ytkijnpjefccepaa
open Go.ChangeShapes Go.WideShapes Go.ChangeAt Go.RowKit Go.Sha

end Go.Proofs.Ytkijnpjefccepaa
end

section
namespace Go.Sha
open Go.RowKit
section
variable {P : Program} {w : World}
theorem wpList_build0 {ops : Array Oper} {rest : List Oper} {o : Oper} {a : Act} {Q : Exit → Act → World → Prop} (hg : o.guard = none) (t : TypeId)  (ho : o.op = .build t #[]) 
    (cells : Array Value) (hb : P.built t [] = some cells) (h : wpList P ops Q rest (a.put o.dst (.agg cells)) w) : wpList P ops Q (o :: rest) a w := by
  skip
  exact wpList_build hg t _ ho (by simp [hb]) (by simpa [hb] using h)
theorem wpList_build1 {ops : Array Oper} {rest : List Oper} {o : Oper} {a : Act} {Q : Exit → Act → World → Prop} (hg : o.guard = none) (t : TypeId) (k0 : Nat) (x0 : Operand) (v0 : Value) (ho : o.op = .build t #[(k0, x0)]) (hx0 : a.eval x0 = v0)
    (cells : Array Value) (hb : P.built t [(k0, v0)] = some cells) (h : wpList P ops Q rest (a.put o.dst (.agg cells)) w) : wpList P ops Q (o :: rest) a w := by
  subst hx0
  exact wpList_build hg t _ ho (by simp [hb]) (by simpa [hb] using h)
theorem wpList_build2 {ops : Array Oper} {rest : List Oper} {o : Oper} {a : Act} {Q : Exit → Act → World → Prop} (hg : o.guard = none) (t : TypeId) (k0 : Nat) (x0 : Operand) (v0 : Value) (k1 : Nat) (x1 : Operand) (v1 : Value) (ho : o.op = .build t #[(k0, x0), (k1, x1)]) (hx0 : a.eval x0 = v0) (hx1 : a.eval x1 = v1)
    (cells : Array Value) (hb : P.built t [(k0, v0), (k1, v1)] = some cells) (h : wpList P ops Q rest (a.put o.dst (.agg cells)) w) : wpList P ops Q (o :: rest) a w := by
  subst hx0; subst hx1
  exact wpList_build hg t _ ho (by simp [hb]) (by simpa [hb] using h)
theorem wpList_build3 {ops : Array Oper} {rest : List Oper} {o : Oper} {a : Act} {Q : Exit → Act → World → Prop} (hg : o.guard = none) (t : TypeId) (k0 : Nat) (x0 : Operand) (v0 : Value) (k1 : Nat) (x1 : Operand) (v1 : Value) (k2 : Nat) (x2 : Operand) (v2 : Value) (ho : o.op = .build t #[(k0, x0), (k1, x1), (k2, x2)]) (hx0 : a.eval x0 = v0) (hx1 : a.eval x1 = v1) (hx2 : a.eval x2 = v2)
    (cells : Array Value) (hb : P.built t [(k0, v0), (k1, v1), (k2, v2)] = some cells) (h : wpList P ops Q rest (a.put o.dst (.agg cells)) w) : wpList P ops Q (o :: rest) a w := by
  subst hx0; subst hx1; subst hx2
  exact wpList_build hg t _ ho (by simp [hb]) (by simpa [hb] using h)
/-- clear of the sponge's bytes -/
theorem wpList_clear_bytes {ops : Array Oper} {rest : List Oper} {o : Oper} {a : Act} {Q : Exit → Act → World → Prop} (hgd : o.guard = none) (s : Operand) (t e : TypeId)
    (ho : o.op = .call { callee := .builtin .clear, args := #[s], argTypes := #[t] }) (ht : P.underlying t = some (.slice e)) (hz : (zeroValue e).run P w = .ok (.int .u8 0) w)
    {b T : Nat} {ext : List Value} {d : Dg} (h : DgAt w b T ext d) (c : Nat) (hs : a.eval s = .slice (some ⟨b, 0, none⟩) 200 c)
    (hK : ∀ w', DgAt w' b T ext { d with a := List.replicate 200 0 } → Fr [b] w w' → wpList P ops Q rest (a.put o.dst (.tuple #[])) w') : wpList P ops Q (o :: rest) a w := by
  refine wpList_plain hgd fun K hK' => ?_
  have e1 : (Builtin.zeroCells (Value.int .u8 0).cells 200).toList = (List.replicate 200 (0 : UInt8)).map bv := by kernel_rfl
  have hst := run_storeCells_at P b 0 T ((List.replicate 200 (0 : UInt8)).map bv) 0 _ w h.2 (by rw [List.length_map, List.length_replicate, List.size_toArray, List.length_append, Dg.cells_length d h.1]; omega) (bytes_one _)
  have hr : (Builtin.clear_ #[t] o.type #[.slice (some ⟨b, 0, none⟩) 200 c]).run P w = .ok (.tuple #[]) (w.setRow b ((d.cells ++ ext).toArray.toList.take (0 + 0) ++ (List.replicate 200 (0 : UInt8)).map bv ++ (d.cells ++ ext).toArray.toList.drop (0 + 0 + ((List.replicate 200 (0 : UInt8)).map bv).length)).toArray) := by
    simp only [Builtin.clear_, Sem.run_bind, run_underlying ht, Result.andThen_ok, hz, e1, hst, Sem.run_pure, List.getElem?_toArray, List.getElem?_cons_zero]
  unfold Oper.wp execOp
  simp only [ho, resolve, invoke, builtin, Sem.run_bind, Sem.run_pure, Result.andThen_ok, List.map_toArray, List.map_cons, List.map_nil, hs, hr]
  exact hK' _ _ (hK _ (h.setRow (List.replicate 200 0) List.length_replicate) ((Fr.refl _ _).setRow _ _ (.inr (by simp))))
end
/-- a pointer to a new block that holds the sponge d -/
def RetP (T : Nat) (d : Dg) (w : World) (e : Ending) (w' : World) : Prop := ∃ g, e = .returned (.pointer (some ⟨g, 0, none⟩)) ∧ w.heap.size ≤ g ∧ g < w'.heap.size ∧ DgAt w' g T [] d ∧ Fr [] w w'
/-- a hash with rate r and size o to which data has been written lies in block b: it may be the zero value still -/
def HsAt (w : World) (b T r o : Nat) (data : Bs) : Prop := DgAt w b T [] (absorb (newD r o 6) data) ∨ (r = 136 ∧ o = 32 ∧ data = [] ∧ DgAt w b T [] (newD 0 0 0))
theorem HsAt.keep {S : List Nat} {w w' : World} {b T r o : Nat} {data : Bs} (h : HsAt w b T r o data) (hf : Fr S w w') (hb : b ∉ S) : HsAt w' b T r o data := by
  rcases h with h | ⟨h1, h2, h3, h4⟩
  · exact .inl (h.keep hf hb)
  · exact .inr ⟨h1, h2, h3, h4.keep hf hb⟩
theorem HsAt.lt {w : World} {b T r o : Nat} {data : Bs} (h : HsAt w b T r o data) : b < w.heap.size := by
  rcases h with h | ⟨_, _, _, h⟩ <;> exact h.lt
/-- the rates and sizes of the four hashes -/
structure Rt (r o : Nat) : Prop where
  rpos : 0 < r
  rle : r ≤ 168
  opos : 0 < o
  ole : o ≤ 64
theorem Rt.abs {r o : Nat} (h : Rt r o) (data : Bs) : (absorb (newD r o 6) data).Ok ∧ (absorb (newD r o 6) data).rate = r ∧ (absorb (newD r o 6) data).ds = 6 ∧ (absorb (newD r o 6) data).out = o ∧ (absorb (newD r o 6) data).st = 0 := absorb_ok (newD_ok r o 6 h.rpos h.rle) data
end Go.Sha
namespace Go.Proofs.Ytkijnpjefccepaa
open Go.ChangeShapes Go.WideShapes Go.ChangeAt Go.RowKit Go.Sha
theorem sizeSH : (Try.prog.info? 138).map (·.size) = some 205 := by kernel_rfl
theorem zeroU8 (w : World) : (zeroValue 5).run Try.prog w = .ok (.int .u8 0) w := by kernel_rfl

theorem dSize_any (w : World) (b T : Nat) (d : Dg) (h : DgAt w b T [] d) : Calls Try.prog 90 #[.pointer (some ⟨b, 0, none⟩)] w fun e w' => e = .returned (.int .i64 (d.out : Int)) ∧ w' = w := by
  have q := h.cout
  go_enter Try.func90, Try.ntmps90
  go_wp2_with fail
  go_ret
  exact ⟨rfl, rfl⟩

theorem dBlockSize_any (w : World) (b T : Nat) (d : Dg) (h : DgAt w b T [] d) : Calls Try.prog 78 #[.pointer (some ⟨b, 0, none⟩)] w fun e w' => e = .returned (.int .i64 (d.rate : Int)) ∧ w' = w := by
  have q := h.crate
  go_enter Try.func78, Try.ntmps78
  go_wp2_with fail
  go_ret
  exact ⟨rfl, rfl⟩

set_option maxRecDepth 100000 in
theorem dReset_any (w : World) (b T : Nat) (d : Dg) (h : DgAt w b T [] d) : Calls Try.prog 76 #[.pointer (some ⟨b, 0, none⟩)] w (RetD (.tuple #[]) b T [] { d with a := List.replicate 200 0, n := 0, st := 0 } w) := by
  have HD := Lib.hid h
  clear h
  go_enter Try.func76, Try.ntmps76
  go_wp2_with (refine wpList_clear_bytes rfl _ 22 5 rfl Try.underlying22 (zeroU8 _) HD.out _ rfl ?_)
  intro w1 D1 f1
  have q1 := D1.cst
  have q2 := D1.fz 204
  have D2 : DgAt (w1.setCell ⟨b, 204, none⟩ (.int .i64 0)) b T [] _ := D1.setSt 0
  have q3 := D2.cn
  have q4 := D2.fz 200
  have D3 : DgAt ((w1.setCell ⟨b, 204, none⟩ (.int .i64 0)).setCell ⟨b, 200, none⟩ (.int .i64 0)) b T [] _ := D2.setN 0
  have H3 := Lib.hid D3
  clear D1 D2 D3 HD
  go_wp2_with fail
  go_end0
  exact ⟨rfl, H3.out, (f1.setCell _ _ (.inr (by simp))).setCell _ _ (.inr (by simp))⟩

end Go.Proofs.Ytkijnpjefccepaa
end

section
namespace Go.Sha
open Go.RowKit
theorem Fr.belowB {B : List Nat} {w w' : World} (h : Fr B w w') (base : Nat) (hb : base ≤ w.heap.size) (hB : ∀ x ∈ B, base ≤ x) : Below base w w' :=
  ⟨h.os, h.tape, h.output, h.size, fun k hk => h.block k (by omega) (fun hx => by have := hB k hx; omega)⟩
theorem Fr.of_belowB {w0 w w' : World} {S : List Nat} {base : Nat} (h : Fr S w0 w) (k : Below base w w') (hb : w0.heap.size ≤ base) : Fr S w0 w' :=
  ⟨k.os.trans h.os, k.tape.trans h.tape, k.output.trans h.output, Nat.le_trans h.size k.size, fun i hi hs => (k.block i (by omega)).trans (h.block i hi hs)⟩
theorem Ow.own_ge {w : World} {base e c n : Nat} {a : Option Addr} {l : Bs} (h : Ow w base e a c l) : ∀ x ∈ (Value.slice a n c).ownBlock.toList, base ≤ x := fun x hx => by
  cases a with
  | none => simp [Value.ownBlock] at hx
  | some ad =>
    have := h.block.2.2.1
    simp [Value.ownBlock] at hx
    omega
theorem DgAt.below {w w' : World} {b T base : Nat} {ext : List Value} {d : Dg} (h : DgAt w b T ext d) (k : Below base w w') (hb : b < base) : DgAt w' b T ext d := ⟨h.1, by rw [k.block b hb]; exact h.2⟩
theorem reset_eq (d : Dg) (r o : Nat) (h1 : d.rate = r) (h2 : d.ds = 6) (h3 : d.out = o) : ({ d with a := List.replicate 200 0, n := 0, st := 0 } : Dg) = newD r o 6 := by
  obtain ⟨da, dn, dr, dd, dou, dst⟩ := d
  simp only at h1 h2 h3
  subst h1 h2 h3
  rfl
theorem Below.tr {base : Nat} {a b c : World} (h : Below base a b) (k : Below base b c) : Below base a c := h.trans k
end Go.Sha
namespace Go.Proofs.Ytkijnpjefccepaa
open Go.ChangeShapes Go.WideShapes Go.ChangeAt Go.RowKit Go.Sha

theorem zeroSH : ((Try.prog.info? 138).bind (·.zero)).map (·.cells) = some ((newD 0 0 0).cells ++ []).toArray := by kernel_rfl
end Go.Proofs.Ytkijnpjefccepaa
end

section
namespace Go.Sha
open Go.RowKit
/-- the state as bytes -/
def mar (m : UInt8) (d : Dg) : Bs := [115, 104, 97, m] ++ [UInt8.ofNat d.rate] ++ d.a ++ [UInt8.ofNat d.n, UInt8.ofNat d.st]
theorem mar_length (m : UInt8) (d : Dg) (h : d.a.length = 200) : (mar m d).length = 207 := by simp [mar, h]
theorem DgAt.sl {w : World} {b T : Nat} {ext : List Value} {d : Dg} (h : DgAt w b T ext d) : Sl w (some ⟨b, 0, none⟩) 200 200 d.a :=
  ⟨h.1, Nat.le_refl _, by simp [maxLen], .inr ⟨b, 0, rfl, fun i hi => by rw [Nat.zero_add]; exact h.byte hi⟩⟩
theorem Sl.two (w : World) (u v : UInt8) (e : Nat) : Sl (w.alloc (.cells #[.int .u8 u.toNat, .int .u8 v.toNat] e)) (some ⟨w.heap.size, 0, none⟩) 2 2 [u, v] := by
  refine ⟨rfl, Nat.le_refl _, by simp [maxLen], .inr ⟨w.heap.size, 0, rfl, fun i hi => ?_⟩⟩
  have h : (w.alloc (.cells #[.int .u8 u.toNat, .int .u8 v.toNat] e)).heap[w.heap.size]? = some (.cells #[.int .u8 u.toNat, .int .u8 v.toNat] e) := Go.heap_alloc_new w _
  simp only [World.cell?, h]
  obtain rfl | rfl : i = 0 ∨ i = 1 := by omega
  · rfl
  · rfl
theorem Below.drew1 {base : Nat} {w0 w : World} (h : Below base w0 w) : Below base w0 w.drew := ⟨h.os, h.tape, h.output, h.size, h.block⟩
end Go.Sha
namespace Go.Proofs.Ytkijnpjefccepaa
open Go.ChangeShapes Go.WideShapes Go.ChangeAt Go.RowKit Go.Sha

attribute [local irreducible] wpStill in
set_option maxRecDepth 100000 in
set_option maxHeartbeats 1600000 in
theorem appendBinary_sha (w : World) (b T : Nat) (ext : List Value) (d : Dg) (a0 : Option Addr) (n0 c0 base : Nat) (L0 : Bs) (h : DgAt w b T ext d) (hds : d.ds = 6) (hl : L0.length = n0) (hO : Ow w base 5 a0 c0 L0) (hb : base ≤ w.heap.size) (hbb : b < base) (hn : n0 + 207 ≤ 140737488355328) (hr : d.rate ≤ 255) (hdn : d.n ≤ 255) (hst : d.st ≤ 255) :
    Calls Try.prog 79 #[.pointer (some ⟨b, 0, none⟩), .slice a0 n0 c0] w fun e w' => ∃ a c, e = .returned (.tuple #[.slice a (n0 + 207) c, .nilIface]) ∧ Ow w' base 5 a c (L0 ++ mar 8 d) ∧ Below base w w' := by
  obtain ⟨i0, hi, hz0, hz1, hz2⟩ := info_parts info5
  obtain ⟨da, dn, dr, dd, dou, dst⟩ := d
  simp only at hds hr hdn hst
  subst hds
  obtain ⟨ub, rfl⟩ : ∃ ub : UInt8, dr = ub.toNat := ⟨UInt8.ofNat dr, by rw [UInt8.toNat_ofNat']; omega⟩
  obtain ⟨un, rfl⟩ : ∃ un : UInt8, dn = un.toNat := ⟨UInt8.ofNat dn, by rw [UInt8.toNat_ofNat']; omega⟩
  obtain ⟨us, rfl⟩ : ∃ us : UInt8, dst = us.toNat := ⟨UInt8.ofNat dst, by rw [UInt8.toNat_ofNat']; omega⟩
  have q1 : w.cell? ⟨b, 202, none⟩ = some (.int .u8 6) := h.cds
  have hda := Lib.hid h.1
  have t6 : ((6 : Int) == 6) = true := by decide
  have HD := Lib.hid h
  have HO := Lib.hid hO
  have HN := Lib.hid hl
  have HB : Hid (Below base w w) := Below.refl _ _
  clear h hO hl
  obtain ⟨xs, hxs⟩ : ∃ xs, xs = L0.map bv := ⟨_, rfl⟩
  obtain ⟨ys, hys⟩ : ∃ ys, ys = ([115, 104, 97, 8]).map bv := ⟨_, rfl⟩
  have O1 : Hid ((w).ownsRow base 5 1 (.slice a0 n0 c0) n0 xs) := by rw [hxs]; exact Ow.row' HO.out HN.out
  have Y1 : Hid (Src Try.prog 1 9 (.string ⟨#[115, 104, 97, 8]⟩) 4 ys (w)) := by rw [hys]; exact Src.ofString w Try.underlying9 ⟨#[115, 104, 97, 8]⟩
  have HX := Lib.hid (And.intro hxs hys)
  clear hxs hys
  have X1 : Hid (n0 + 4 ≤ maxLen) := by show _ ≤ _; unfold maxLen; omega
  have X2 : Hid ((n0 + 4) * 1 ≤ 140737488355328) := by show _ ≤ _; omega
  have X3 : Hid (base ≤ (w).heap.size) := by show _ ≤ _; have := HB.out.size; omega
  go_enter Try.func79, Try.ntmps79
  go_wp2_with (at_builtin; refine wpList_append_src _ rfl _ _ 22 9 rfl base 5 i0 (.int .u8 0) 1 1 Try.underlying22 hi hz0 hz1 hz2 rfl a0 n0 c0 xs rfl O1.out _ 4 ys rfl Y1.out X1.out X2.out X3.out ?_)
  intro a1 c1 w1 ho hg
  have HB' : Below base w w1 := HB.out.trans ((((Fr.refl _ _).grown hg (fun q hq => by rw [hq]; exact .inr (by simp))) : Fr (Value.slice a0 n0 c0).ownBlock.toList (w) w1).belowB base X3.out HO.out.own_ge)
  have HO' : Ow w1 base 5 a1 c1 (L0 ++ [115, 104, 97, 8]) := Ow.of ho (by rw [List.length_append, HN.out]; rfl) (by rw [HX.out.1, HX.out.2, List.map_append])
  have HN' : (L0 ++ [115, 104, 97, 8]).length = n0 + 4 := by rw [List.length_append, HN.out]; rfl
  have HD' := HD.out.below ((((Fr.refl _ _).grown hg (fun q hq => by rw [hq]; exact .inr (by simp))) : Fr (Value.slice a0 n0 c0).ownBlock.toList (w) w1).belowB base X3.out HO.out.own_ge) hbb
  clear ho hg O1 Y1 X1 X2 X3 HX HO HN HB HD
  obtain ⟨L1, hL1⟩ : ∃ L1, L1 = L0 ++ [115, 104, 97, 8] := ⟨_, rfl⟩
  rw [← hL1] at HO' HN'
  generalize hn1 : n0 + 4 = n1 at HN' ⊢
  have hnb1 : n1 + 203 ≤ 140737488355328 := by omega
  have HL1 := Lib.hid (And.intro hL1 hn1)
  have HO := Lib.hid HO'
  have HN := Lib.hid HN'
  have HB := Lib.hid HB'
  have HD := Lib.hid HD'
  clear HO' HN' HB' HD' hL1 hn1
  clear q1
  have q2 := HD.out.crate
  simp only at q2
  have S1 := Lib.hid (Sl.one w1 ub 5)
  have HO1 := Lib.hid (HO.out.keep0 ((Fr.refl _ _).alloc (.cells #[.int .u8 ub.toNat] 5)))
  have HB1 : Hid (Below base w (w1.alloc (.cells #[.int .u8 ub.toNat] 5))) := HB.out.alloc (by have := HB.out.size; omega) _
  have HD1 := Lib.hid (HD.out.keep ((Fr.refl [] _).alloc (.cells #[.int .u8 ub.toNat] 5)) (by simp))
  clear HO HB HD
  have HO := HO1
  have HB := HB1
  have HD := HD1
  clear HO1 HB1 HD1
  obtain ⟨xs, hxs⟩ : ∃ xs, xs = L1.map bv := ⟨_, rfl⟩
  obtain ⟨ys, hys⟩ : ∃ ys, ys = ([ub]).map bv := ⟨_, rfl⟩
  have O1 : Hid ((w1.alloc (.cells #[.int .u8 ub.toNat] 5)).ownsRow base 5 1 (.slice a1 n1 c1) n1 xs) := by rw [hxs]; exact Ow.row' HO.out HN.out
  have Y1 : Hid (Src Try.prog 1 22 (.slice (some ⟨w1.heap.size, 0, none⟩) 1 1) 1 ys (w1.alloc (.cells #[.int .u8 ub.toNat] 5))) := by rw [hys]; exact S1.out.src Try.underlying22
  have HX := Lib.hid (And.intro hxs hys)
  clear hxs hys
  have X1 : Hid (n1 + 1 ≤ maxLen) := by show _ ≤ _; unfold maxLen; omega
  have X2 : Hid ((n1 + 1) * 1 ≤ 140737488355328) := by show _ ≤ _; omega
  have X3 : Hid (base ≤ (w1.alloc (.cells #[.int .u8 ub.toNat] 5)).heap.size) := by show _ ≤ _; have := HB.out.size; omega
  go_wp2_with (at_builtin; refine wpList_append_src _ rfl _ _ 22 22 rfl base 5 i0 (.int .u8 0) 1 1 Try.underlying22 hi hz0 hz1 hz2 rfl a1 n1 c1 xs rfl O1.out _ 1 ys rfl Y1.out X1.out X2.out X3.out ?_)
  intro a2 c2 w2 ho hg
  have HB' : Below base w w2 := HB.out.trans ((((Fr.refl _ _).grown hg (fun q hq => by rw [hq]; exact .inr (by simp))) : Fr (Value.slice a1 n1 c1).ownBlock.toList (w1.alloc (.cells #[.int .u8 ub.toNat] 5)) w2).belowB base X3.out HO.out.own_ge)
  have HO' : Ow w2 base 5 a2 c2 (L1 ++ [ub]) := Ow.of ho (by rw [List.length_append, HN.out]; rfl) (by rw [HX.out.1, HX.out.2, List.map_append])
  have HN' : (L1 ++ [ub]).length = n1 + 1 := by rw [List.length_append, HN.out]; rfl
  have HD' := HD.out.below ((((Fr.refl _ _).grown hg (fun q hq => by rw [hq]; exact .inr (by simp))) : Fr (Value.slice a1 n1 c1).ownBlock.toList (w1.alloc (.cells #[.int .u8 ub.toNat] 5)) w2).belowB base X3.out HO.out.own_ge) hbb
  clear ho hg O1 Y1 X1 X2 X3 HX HO HN HB HD
  obtain ⟨L2, hL2⟩ : ∃ L2, L2 = L1 ++ [ub] := ⟨_, rfl⟩
  rw [← hL2] at HO' HN'
  generalize hn2 : n1 + 1 = n2 at HN' ⊢
  have hnb2 : n2 + 202 ≤ 140737488355328 := by omega
  have HL2 := Lib.hid (And.intro hL2 hn2)
  have HO := Lib.hid HO'
  have HN := Lib.hid HN'
  have HB := Lib.hid HB'
  have HD := Lib.hid HD'
  clear HO' HN' HB' HD' hL2 hn2
  clear q2 S1
  have S2 := Lib.hid HD.out.sl
  simp only at S2
  obtain ⟨xs, hxs⟩ : ∃ xs, xs = L2.map bv := ⟨_, rfl⟩
  obtain ⟨ys, hys⟩ : ∃ ys, ys = (da).map bv := ⟨_, rfl⟩
  have O1 : Hid ((w2).ownsRow base 5 1 (.slice a2 n2 c2) n2 xs) := by rw [hxs]; exact Ow.row' HO.out HN.out
  have Y1 : Hid (Src Try.prog 1 22 (.slice (some ⟨b, 0, none⟩) 200 200) 200 ys (w2)) := by rw [hys]; exact S2.out.src Try.underlying22
  have HX := Lib.hid (And.intro hxs hys)
  clear hxs hys
  have X1 : Hid (n2 + 200 ≤ maxLen) := by show _ ≤ _; unfold maxLen; omega
  have X2 : Hid ((n2 + 200) * 1 ≤ 140737488355328) := by show _ ≤ _; omega
  have X3 : Hid (base ≤ (w2).heap.size) := by show _ ≤ _; have := HB.out.size; omega
  go_wp2_with (at_builtin; refine wpList_append_src _ rfl _ _ 22 22 rfl base 5 i0 (.int .u8 0) 1 1 Try.underlying22 hi hz0 hz1 hz2 rfl a2 n2 c2 xs rfl O1.out _ 200 ys rfl Y1.out X1.out X2.out X3.out ?_)
  intro a3 c3 w3 ho hg
  have HB' : Below base w w3 := HB.out.trans ((((Fr.refl _ _).grown hg (fun q hq => by rw [hq]; exact .inr (by simp))) : Fr (Value.slice a2 n2 c2).ownBlock.toList (w2) w3).belowB base X3.out HO.out.own_ge)
  have HO' : Ow w3 base 5 a3 c3 (L2 ++ da) := Ow.of ho (by rw [List.length_append, HN.out, hda.out]) (by rw [HX.out.1, HX.out.2, List.map_append])
  have HN' : (L2 ++ da).length = n2 + 200 := by rw [List.length_append, HN.out, hda.out]
  have HD' := HD.out.below ((((Fr.refl _ _).grown hg (fun q hq => by rw [hq]; exact .inr (by simp))) : Fr (Value.slice a2 n2 c2).ownBlock.toList (w2) w3).belowB base X3.out HO.out.own_ge) hbb
  clear ho hg O1 Y1 X1 X2 X3 HX HO HN HB HD
  obtain ⟨L3, hL3⟩ : ∃ L3, L3 = L2 ++ da := ⟨_, rfl⟩
  rw [← hL3] at HO' HN'
  generalize hn3 : n2 + 200 = n3 at HN' ⊢
  have hnb3 : n3 + 2 ≤ 140737488355328 := by omega
  have HL3 := Lib.hid (And.intro hL3 hn3)
  have HO := Lib.hid HO'
  have HN := Lib.hid HN'
  have HB := Lib.hid HB'
  have HD := Lib.hid HD'
  clear HO' HN' HB' HD' hL3 hn3
  clear S2
  go_wp2_with fail
  have q3 := HD.out.cn
  have q4 := HD.out.cst
  simp only at q3 q4
  have cv1 : IntKind.u8.wrap (un.toNat : Int) = (un.toNat : Int) := wrap_u8 _ un.toNat_lt
  have cv2 : IntKind.u8.wrap (us.toNat : Int) = (us.toNat : Int) := wrap_u8 _ us.toNat_lt
  have S3 : Hid (Sl ((w3.alloc (.cells #[.int .u8 un.toNat, .int .u8 us.toNat] 5)).drew) (some ⟨w3.heap.size, 0, none⟩) 2 2 [un, us]) := (Sl.two w3 un us 5).keep0 (Fr.refl _ _).drew
  have HO1 := Lib.hid (HO.out.keep0 ((Fr.refl _ _).alloc (.cells #[.int .u8 un.toNat, .int .u8 us.toNat] 5)))
  have HB1 : Hid (Below base w (w3.alloc (.cells #[.int .u8 un.toNat, .int .u8 us.toNat] 5))) := HB.out.alloc (by have := HB.out.size; omega) _
  have HD1 := Lib.hid (HD.out.keep ((Fr.refl [] _).alloc (.cells #[.int .u8 un.toNat, .int .u8 us.toNat] 5)) (by simp))
  clear HO HB HD
  have HO := HO1
  have HB := HB1
  have HD := HD1
  clear HO1 HB1 HD1
  have HO3 : Hid (Ow ((w3.alloc (.cells #[.int .u8 un.toNat, .int .u8 us.toNat] 5)).drew) base 5 a3 c3 L3) := HO
  have HB3 : Hid (Below base w ((w3.alloc (.cells #[.int .u8 un.toNat, .int .u8 us.toNat] 5)).drew)) := Below.drew1 HB.out
  have HD3 : Hid (DgAt ((w3.alloc (.cells #[.int .u8 un.toNat, .int .u8 us.toNat] 5)).drew) b T ext _) := HD
  clear HD HO HB
  have HD := HD3
  have HO := HO3
  have HB := HB3
  clear HD3 HO3 HB3
  obtain ⟨xs, hxs⟩ : ∃ xs, xs = L3.map bv := ⟨_, rfl⟩
  obtain ⟨ys, hys⟩ : ∃ ys, ys = ([un, us]).map bv := ⟨_, rfl⟩
  have O1 : Hid (((w3.alloc (.cells #[.int .u8 un.toNat, .int .u8 us.toNat] 5)).drew).ownsRow base 5 1 (.slice a3 n3 c3) n3 xs) := by rw [hxs]; exact Ow.row' HO.out HN.out
  have Y1 : Hid (Src Try.prog 1 22 (.slice (some ⟨w3.heap.size, 0, none⟩) 2 2) 2 ys ((w3.alloc (.cells #[.int .u8 un.toNat, .int .u8 us.toNat] 5)).drew)) := by rw [hys]; exact S3.out.src Try.underlying22
  have HX := Lib.hid (And.intro hxs hys)
  clear hxs hys
  have X1 : Hid (n3 + 2 ≤ maxLen) := by show _ ≤ _; unfold maxLen; omega
  have X2 : Hid ((n3 + 2) * 1 ≤ 140737488355328) := by show _ ≤ _; omega
  have X3 : Hid (base ≤ ((w3.alloc (.cells #[.int .u8 un.toNat, .int .u8 us.toNat] 5)).drew).heap.size) := by show _ ≤ _; have := HB.out.size; omega
  go_region_law ((refine step_append_src _ rfl _ _ 22 22 rfl base 5 i0 (.int .u8 0) 1 1 Try.underlying22 hi hz0 hz1 hz2 rfl a3 n3 c3 xs rfl O1.out _ 2 ys rfl Y1.out X1.out X2.out X3.out ?_; intro a4 c4 w4 ho hg))
  all_goals
    have HB' : Below base w w4 := HB.out.trans ((((Fr.refl _ _).grown hg (fun q hq => by rw [hq]; exact .inr (by simp))) : Fr (Value.slice a3 n3 c3).ownBlock.toList ((w3.alloc (.cells #[.int .u8 un.toNat, .int .u8 us.toNat] 5)).drew) w4).belowB base X3.out HO.out.own_ge)
    have HO' : Ow w4 base 5 a4 c4 (L3 ++ [un, us]) := Ow.of ho (by rw [List.length_append, HN.out]; rfl) (by rw [HX.out.1, HX.out.2, List.map_append])
    have HN' : (L3 ++ [un, us]).length = n3 + 2 := by rw [List.length_append, HN.out]; rfl
    have HD' := HD.out.below ((((Fr.refl _ _).grown hg (fun q hq => by rw [hq]; exact .inr (by simp))) : Fr (Value.slice a3 n3 c3).ownBlock.toList ((w3.alloc (.cells #[.int .u8 un.toNat, .int .u8 us.toNat] 5)).drew) w4).belowB base X3.out HO.out.own_ge) hbb
    clear ho hg O1 Y1 X1 X2 X3 HX HO HN HB HD
    obtain ⟨L4, hL4⟩ : ∃ L4, L4 = L3 ++ [un, us] := ⟨_, rfl⟩
    rw [← hL4] at HO' HN'
    generalize hn4 : n3 + 2 = n4 at HN' ⊢
    have hnb4 : n4 + 0 ≤ 140737488355328 := by omega
    have HL4 := Lib.hid (And.intro hL4 hn4)
    have HO := Lib.hid HO'
    have HN := Lib.hid HN'
    have HB := Lib.hid HB'
    have HD := Lib.hid HD'
    clear HO' HN' HB' HD' hL4 hn4
    clear S3
    go_wp2_with fail
    go_ret2
    have e1 : n4 = n0 + 207 := by rw [← HL4.out.2, ← HL3.out.2, ← HL2.out.2, ← HL1.out.2]
    have e2 : L4 = L0 ++ mar 8 ⟨da, un.toNat, ub.toNat, 6, dou, us.toNat⟩ := by
      rw [HL4.out.1, HL3.out.1, HL2.out.1, HL1.out.1]
      simp [mar, UInt8.ofNat_toNat]
    refine ⟨a4, c4, ?_, ?_, HB.out⟩
    · rw [← e1]
      rfl
    · rw [← e2]
      exact HO.out

end Go.Proofs.Ytkijnpjefccepaa
end

section
namespace Go.Sha
open Go.RowKit
theorem mar_at4 (m : UInt8) (d : Dg) : (mar m d).getD 4 0 = UInt8.ofNat d.rate := rfl
theorem mar_at (m : UInt8) (d : Dg) (h : d.a.length = 200) (i : Nat) (hi : i < 200) : (mar m d).getD (5 + i) 0 = d.a.getD i 0 := by
  unfold mar
  simp only [List.getD_eq_getElem?_getD]
  rw [List.getElem?_append_left (by simp [h]; omega), List.getElem?_append_right (by simp)]
  simp
theorem mar_n (m : UInt8) (d : Dg) (h : d.a.length = 200) : (mar m d).getD 205 0 = UInt8.ofNat d.n := by
  unfold mar
  simp only [List.getD_eq_getElem?_getD]
  rw [List.getElem?_append_right (by simp [h])]
  simp [h]
theorem mar_st (m : UInt8) (d : Dg) (h : d.a.length = 200) : (mar m d).getD 206 0 = UInt8.ofNat d.st := by
  unfold mar
  simp only [List.getD_eq_getElem?_getD]
  rw [List.getElem?_append_right (by simp [h])]
  simp [h]
theorem Dg.setCells (d : Dg) (ext : List Value) (a' : Bs) (h : d.a.length = 200) (_ha : a'.length = 200) :
    ((d.cells ++ ext).toArray.toList.take 0 ++ a'.map bv ++ (d.cells ++ ext).toArray.toList.drop (0 + 200)).toArray = (({ d with a := a' } : Dg).cells ++ ext).toArray := by
  simp only [Dg.cells, List.append_assoc, Nat.zero_add, List.take_zero, List.nil_append]
  rw [List.drop_left' (by simp [h])]
end Go.Sha
namespace Go.Proofs.Ytkijnpjefccepaa
open Go.ChangeShapes Go.WideShapes Go.ChangeAt Go.RowKit Go.Sha

set_option maxRecDepth 100000 in
set_option maxHeartbeats 1600000 in
theorem unmarshal_sha (w : World) (b T : Nat) (ext : List Value) (d d0 : Dg) (g o cp : Nat) (h : DgAt w b T ext d) (hds : d.ds = 6) (hd0 : d0.a.length = 200) (hrate : d0.rate = d.rate) (hrl : d.rate ≤ 255) (hn0 : d0.n ≤ d.rate) (hst0 : d0.st = 0 ∨ d0.st = 1) (hS : Sl w (some ⟨g, o, none⟩) 207 cp (mar 8 d0)) (hgb : g ≠ b) :
    Calls Try.prog 81 #[.pointer (some ⟨b, 0, none⟩), .slice (some ⟨g, o, none⟩) 207 cp] w (RetD .nilIface b T ext { d with a := d0.a, n := d0.n, st := d0.st } w) := by
  obtain ⟨i0, hi, hz0, hz1, hz2⟩ := info_parts info5
  have hcp := hS.cap
  have hmx := hS.max
  unfold maxLen at hmx
  have hcel : ∀ i, i < 207 → w.cell? ⟨g, o + i, none⟩ = some (.int .u8 ((mar 8 d0).getD i 0).toNat) := by
    rcases hS.cel with h0 | ⟨b', o', hb', hc⟩
    · omega
    · simp only [Option.some.injEq, Addr.mk.injEq] at hb'
      obtain ⟨rfl, rfl, _⟩ := hb'
      exact hc
  clear hS
  have HC := Lib.hid hcel
  clear hcel
  have hcv := run_convert_bytes_arg (P := Try.prog) w 22 5 Try.underlying22 Try.underlying5 g o 4 cp [115, 104, 97, 8] rfl (fun i hi => by
    rw [HC.out i (by omega)]
    obtain rfl | rfl | rfl | rfl : i = 0 ∨ i = 1 ∨ i = 2 ∨ i = 3 := by omega
    all_goals rfl) 9 Try.underlying9
  have hcv' : (convert 22 9 (.slice (some ⟨g, o, none⟩) 4 cp)).run Try.prog w = .ok (.string ⟨#[115, 104, 97, 8]⟩) w := hcv
  clear hcv
  have s8 : ((⟨#[115, 104, 97, 8]⟩ : ByteArray) == ⟨#[115, 104, 97, 8]⟩) = true := by decide
  obtain ⟨da, dn, dr, dd, dou, dst⟩ := d
  obtain ⟨ea, en, er, ed, eou, est⟩ := d0
  simp only at hds hrate hrl hn0 hst0 hd0
  subst hds hrate
  obtain ⟨ub, rfl⟩ : ∃ ub : UInt8, er = ub.toNat := ⟨UInt8.ofNat er, by rw [UInt8.toNat_ofNat']; omega⟩
  obtain ⟨un, rfl⟩ : ∃ un : UInt8, en = un.toNat := ⟨UInt8.ofNat en, by rw [UInt8.toNat_ofNat']; omega⟩
  have hub : ub.toNat < 256 := ub.toNat_lt
  have hun : un.toNat < 256 := un.toNat_lt
  have q1 : w.cell? ⟨b, 202, none⟩ = some (.int .u8 6) := h.cds
  have q2 : w.cell? ⟨b, 201, none⟩ = some (.int .i64 ub.toNat) := h.crate
  have p4 : w.cell? ⟨g, o + 4, none⟩ = some (.int .u8 ub.toNat) := by
    rw [HC.out 4 (by omega), mar_at4, UInt8.ofNat_toNat]
  have z1 : ¬ cp = 4 := by omega
  have z2 : ¬ cp - 4 = 1 := by omega
  have z3 : ¬ cp - 4 - 1 = 200 := by omega
  have HD := Lib.hid h
  have hla := h.1
  simp only at hla
  clear h
  have HE := Lib.hid hd0
  clear hd0
  have HST := Lib.hid hst0
  clear hst0
  have hcopy := run_copy_bytes (P := Try.prog) (w := w) (ty := 3) (tx := 22) (g := b) (o := 0) (m := 200) (c := 200) (b := g) (n := o + 4 + 1) (q := 202) (c2 := cp - 4 - 1) (k := 200) (l := ea) Try.underlying22 hi hz1 HD.out.2 rfl (by rw [List.size_toArray, List.length_append, Dg.cells_length _ hla]; omega) HE.out (fun i hi => by
    rw [show o + 4 + 1 + i = o + (5 + i) by omega, HC.out (5 + i) (by omega), mar_at _ _ HE.out i hi])
  rw [Dg.setCells _ ext ea hla HE.out] at hcopy
  have HCP := Lib.hid hcopy
  clear hcopy
  go_enter Try.func81, Try.ntmps81
  go_wp2_with (refine wpList_copy_run (vs := .slice (some ⟨b, 0, none⟩) 200 200) (vx := .slice (some ⟨g, o + 4 + 1, none⟩) 202 (cp - 4 - 1)) rfl _ _ 22 22 rfl rfl rfl HCP.out ?_; refine Hid.out ?_)
  show wpList _ _ _ _ _ _
  have D1 : DgAt (w.setRow b (({ a := ea, n := dn, rate := ub.toNat, ds := 6, out := dou, st := dst : Dg }).cells ++ ext).toArray) b T ext { a := ea, n := dn, rate := ub.toNat, ds := 6, out := dou, st := dst } := ⟨HE.out, setRow_heap _ _ _ _ _ _ HD.out.2⟩
  have f1 : Fr [b] w (w.setRow b (({ a := ea, n := dn, rate := ub.toNat, ds := 6, out := dou, st := dst : Dg }).cells ++ ext).toArray) := (Fr.refl _ _).setRow _ _ (.inr (by simp))
  generalize w.setRow b (({ a := ea, n := dn, rate := ub.toNat, ds := 6, out := dou, st := dst : Dg }).cells ++ ext).toArray = w1 at D1 f1 ⊢
  have p5 : w1.cell? ⟨g, o + 4 + 1 + 200, none⟩ = some (.int .u8 un.toNat) := f1.cell (by rw [show o + 4 + 1 + 200 = o + 205 by omega, HC.out 205 (by omega), mar_n _ _ HE.out, UInt8.ofNat_toNat]) (by simpa using hgb)
  obtain ⟨us, hus, hus2⟩ : ∃ us : UInt8, us.toNat = est ∧ (us.toNat = 0 ∨ us.toNat = 1) := ⟨UInt8.ofNat est, by rw [UInt8.toNat_ofNat']; rcases HST.out with e | e <;> omega, by rw [UInt8.toNat_ofNat']; rcases HST.out with e | e <;> omega⟩
  have p6 : w1.cell? ⟨g, o + 4 + 1 + 200 + 1, none⟩ = some (.int .u8 us.toNat) := f1.cell (by rw [show o + 4 + 1 + 200 + 1 = o + 206 by omega, HC.out 206 (by omega), mar_st _ _ HE.out, hus, ← hus, UInt8.ofNat_toNat]) (by simpa using hgb)
  have HUS := Lib.hid hus
  clear hus q1 q2 p4 HCP HC HST hcv'
  have H1 := Lib.hid D1
  have q5 := D1.crate
  have q6 := D1.cn
  have q7 := D1.fz 200
  simp only at q5 q6
  have hnn : ¬ (ub.toNat : Int) < (un.toNat : Int) := by omega
  have q8 := D1.cst
  have q9 := D1.fz 204
  simp only at q8
  have D2 := D1.setN un.toNat
  have D3 := D2.setSt us.toNat
  have H3 := Lib.hid D3
  clear D1 D2 D3
  generalize hu : us.toNat = u at p6 H3 HUS hus2
  clear hu
  go_wp2_with fail
  go_quiet (fail)
  rcases hus2 with rfl | rfl
  all_goals
    go_wp2_with fail
    go_ret
    refine ⟨rfl, ?_, ?_⟩
    · rw [← HUS.out]
      exact H3.out
    · exact ((f1.drewN _).setCell _ _ (.inr (by simp))).setCell _ _ (.inr (by simp))

end Go.Proofs.Ytkijnpjefccepaa
end

section
namespace Go.Sha
open Go.RowKit
theorem Ow.made0 (w : World) (n e : Nat) (hn : n ≤ maxLen) : Ow (w.alloc (.cells (madeCells #[.int .u8 0] n) e)) w.heap.size e (some ⟨w.heap.size, 0, none⟩) n [] :=
  ⟨rfl, .inr ⟨w.heap.size, n, madeCells #[.int .u8 0] n, by simp, Nat.le_refl _, Go.heap_alloc_new w _, by simp, hn, by simp [size_madeCells], by simp⟩⟩
/-- the state of a hash to which data has been written, as bytes -/
def marH (r o : Nat) (data : Bs) : Bs := mar 8 (absorb (newD r o 6) data)
theorem marH_length (r o : Nat) (data : Bs) (h : Rt r o) : (marH r o data).length = 207 := mar_length _ _ (h.abs data).1.len
end Go.Sha
namespace Go.Proofs.Ytkijnpjefccepaa
open Go.ChangeShapes Go.WideShapes Go.ChangeAt Go.RowKit Go.Sha
theorem make_cap2 (n c : Nat) (z0 z : Int) (h0 : z0 = n) (hz : z = c) (hn : n ≤ c) (hc : c ≤ 281474976710656) : ∀ u : World, (Instr.makeSlice 22 (.int .i64 z0) (.int .i64 z)).run Try.prog u =
    .ok (.slice (some ⟨u.heap.size, 0, none⟩) n c) (u.alloc (.cells (madeCells #[.int .u8 0] c) 5)) := by
  subst h0
  exact make_cap n c z hz hn hc
theorem abs_small (r o : Nat) (data : Bs) (h : Rt r o) : (absorb (newD r o 6) data).rate ≤ 255 ∧ (absorb (newD r o 6) data).n ≤ 255 ∧ (absorb (newD r o 6) data).st ≤ 255 := by
  have h1 := h.abs data
  have h2 := h1.1.lt
  have h3 := h.rle
  have h4 := h1.2.1
  have h5 := h1.2.2.2.2
  omega
theorem load_eq (d d0 : Dg) (h1 : d0.rate = d.rate) (h2 : d0.ds = d.ds) (h3 : d0.out = d.out) : ({ d with a := d0.a, n := d0.n, st := d0.st } : Dg) = d0 := by
  obtain ⟨_, _, _, _, _, _⟩ := d
  obtain ⟨_, _, _, _, _, _⟩ := d0
  simp only at h1 h2 h3
  subst h1 h2 h3
  rfl
end Go.Proofs.Ytkijnpjefccepaa
end
