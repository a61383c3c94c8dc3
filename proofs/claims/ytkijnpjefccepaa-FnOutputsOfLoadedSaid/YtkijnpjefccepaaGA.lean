/- Contracts and lemmas, merged: Base, Mem, Own, Open, Bulk, CmpLem, Same, Bounded, Dg. Their conditions stand in each. -/
import Derived.Test.YtkijnpjefccepaaRows
import Derived.BigQuiet
import Derived.Deep.AppendSrc
import Derived.Deep.CondSized
import Derived.Deep.QuietTactic
import Derived.JoinedCond
import Derived.Laws.AppendOwnNone
import Derived.Laws.Externs
import Derived.Lib.Hide
import Derived.LoopTactic
import Derived.OpenShut
import Derived.Outline
import Derived.ProofKit
import Derived.SizedLaws
import Derived.WalkKit
import Derived.WalkLawsBesides
section
namespace Go.Sha
open Go.RowKit

abbrev Bs := List UInt8
/-- a byte as a cell's value -/
def bv (x : UInt8) : Value := .int .u8 x.toNat

/-- the slice (a, n, c) reads as the bytes l -/
structure Sl (w : World) (a : Option Addr) (n c : Nat) (l : Bs) : Prop where
  len : l.length = n
  cap : n ≤ c
  max : c ≤ maxLen
  cel : n = 0 ∨ ∃ b o, a = some ⟨b, o, none⟩ ∧ ∀ i, i < n → w.cell? ⟨b, o + i, none⟩ = some (.int .u8 (l.getD i 0).toNat)

/-- nothing that was there has turned, but in the blocks of S; blocks may have come -/
structure Fr (S : List Nat) (w w' : World) : Prop where
  os : w'.os = w.os
  tape : w'.tape = w.tape
  output : w'.output = w.output
  size : w.heap.size ≤ w'.heap.size
  block : ∀ k, k < w.heap.size → k ∉ S → w'.heap[k]? = w.heap[k]?

theorem Fr.refl (S : List Nat) (w : World) : Fr S w w := ⟨rfl, rfl, rfl, Nat.le_refl _, fun _ _ _ => rfl⟩
theorem Fr.trans {S : List Nat} {a b c : World} (h : Fr S a b) (k : Fr S b c) : Fr S a c :=
  ⟨k.os.trans h.os, k.tape.trans h.tape, k.output.trans h.output, Nat.le_trans h.size k.size,
   fun i hi hs => (k.block i (Nat.lt_of_lt_of_le hi h.size) hs).trans (h.block i hi hs)⟩
theorem Fr.mono {S T : List Nat} {a b : World} (h : Fr S a b) (hs : ∀ k, k < a.heap.size → k ∈ S → k ∈ T) : Fr T a b :=
  ⟨h.os, h.tape, h.output, h.size, fun i hi ht => h.block i hi fun x => ht (hs i hi x)⟩
theorem Fr.drew {S : List Nat} {a w : World} (h : Fr S a w) : Fr S a w.drew := ⟨h.os, h.tape, h.output, h.size, h.block⟩
theorem Fr.drewN {S : List Nat} {a w : World} (h : Fr S a w) (n : Nat) : Fr S a (w.drewN n) := ⟨h.os, h.tape, h.output, h.size, h.block⟩
theorem Fr.alloc {S : List Nat} {a w : World} (h : Fr S a w) (o : Obj) : Fr S a (w.alloc o) :=
  h.trans ⟨rfl, rfl, rfl, by simp, fun k hk _ => Below.heap_alloc _ _ _ hk⟩
theorem Fr.setCell {S : List Nat} {a w : World} (h : Fr S a w) (p : Addr) (u : Value) (hp : a.heap.size ≤ p.block ∨ p.block ∈ S) : Fr S a (w.setCell p u) := by
  refine ⟨h.os, h.tape, h.output, by simpa [World.setCell] using h.size, fun k hk hs => ?_⟩
  rw [Below.heap_setCell _ _ _ _ (by rintro rfl; rcases hp with hp | hp; omega; exact hs hp)]
  exact h.block k hk hs
theorem Fr.below {w w' : World} (h : Fr [] w w') : Below w.heap.size w w' := ⟨h.os, h.tape, h.output, h.size, fun k hk => h.block k hk (by simp)⟩
theorem Fr.of_below {w w' : World} (h : Below w.heap.size w w') : Fr [] w w' := ⟨h.os, h.tape, h.output, h.size, fun k hk _ => h.block k hk⟩
/-- behind an append or a make: the row that may have been written came since, or is one of S -/
theorem Fr.grown {S : List Nat} {a w w' : World} {row : Option Nat} (h : Fr S a w) (hg : w.grownBy w' row) (hr : ∀ k, row = some k → a.heap.size ≤ k ∨ k ∈ S) : Fr S a w' := by
  refine ⟨hg.os.trans h.os, hg.tape.trans h.tape, hg.output.trans h.output, Nat.le_trans h.size hg.size, fun k hk hs => ?_⟩
  rw [hg.block k (Nat.lt_of_lt_of_le hk h.size) (fun e => by rcases hr k e.symm with hr | hr; omega; exact hs hr)]
  exact h.block k hk hs
theorem Fr.cell {S : List Nat} {w w' : World} (h : Fr S w w') {p : Addr} {v : Value} (hc : w.cell? p = some v) (hs : p.block ∉ S) : w'.cell? p = some v :=
  (World.cell?_of_block (w := w) (h.block p.block (World.block_lt_of_cell? w p hc) hs)).trans hc
theorem Fr.obj {S : List Nat} {w w' : World} (h : Fr S w w') {b : Nat} {o : Obj} (hc : w.heap[b]? = some o) (hs : b ∉ S) : w'.heap[b]? = some o := by
  rw [h.block b (Array.getElem?_eq_some_iff.1 hc).1 hs]; exact hc

theorem Sl.keep {S : List Nat} {w w' : World} {a : Option Addr} {n c : Nat} {l : Bs} (h : Sl w a n c l) (hf : Fr S w w') (hs : ∀ x, a = some x → n ≠ 0 → x.block ∉ S) : Sl w' a n c l := by
  refine ⟨h.len, h.cap, h.max, ?_⟩
  rcases h.cel with h0 | ⟨b, o, rfl, hc⟩
  · exact .inl h0
  · by_cases hn : n = 0
    · exact .inl hn
    · exact .inr ⟨b, o, rfl, fun i hi => hf.cell (hc i hi) (show b ∉ S from hs _ rfl hn)⟩
theorem Sl.keep0 {w w' : World} {a : Option Addr} {n c : Nat} {l : Bs} (h : Sl w a n c l) (hf : Fr [] w w') : Sl w' a n c l := h.keep hf (by simp)

/-- the slice owns its block, which came at base or behind it, and reads as l -/
def Ow (w : World) (base e : Nat) (a : Option Addr) (c : Nat) (l : Bs) : Prop := w.ownsRow base e 1 (.slice a l.length c) l.length (l.map bv)

theorem Ow.sl {w : World} {base e : Nat} {a : Option Addr} {c : Nat} {l : Bs} (h : Ow w base e a c l) : Sl w a l.length c l := by
  obtain ⟨_, h2⟩ := h
  rcases h2 with ⟨h3, h0⟩ | ⟨g, cap, cur, hv, hb, hg, hn, hm, hs, ht⟩
  · simp only [Value.slice.injEq] at h3
    obtain ⟨rfl, h3, rfl⟩ := h3
    exact ⟨rfl, by omega, by simp [maxLen], .inl h0⟩
  · simp only [Value.slice.injEq] at hv
    obtain ⟨rfl, _, rfl⟩ := hv
    refine ⟨rfl, hn, hm, .inr ⟨g, 0, rfl, fun i hi => ?_⟩⟩
    have h4 : (cur.toList.take (l.length * 1))[i]? = (l.map bv)[i]? := by rw [ht]
    rw [List.getElem?_take_of_lt (by omega)] at h4
    simp only [World.cell?, hg]
    simp only [Array.getElem?_toList, List.getElem?_map, List.getElem?_eq_getElem hi, Option.map_some, Nat.zero_add] at h4 ⊢
    rw [h4]
    simp [bv, List.getD_eq_getElem?_getD, List.getElem?_eq_getElem hi]

/-- a bool is handed back, and nothing that was there has turned -/
def RetB (b : Bool) (w : World) (e : Ending) (w' : World) : Prop := e = .returned (.bool b) ∧ Fr [] w w'
def RetI (n : Int) (w : World) (e : Ending) (w' : World) : Prop := e = .returned (.int .i64 n) ∧ Fr [] w w'
/-- a slice of its own is handed back that reads as l -/
def RetO (t : Nat) (l : Bs) (w : World) (e : Ending) (w' : World) : Prop := ∃ a c, e = .returned (.slice a l.length c) ∧ Ow w' w.heap.size t a c l ∧ Fr [] w w'

theorem wrap_u8 (n : Nat) (h : n < 256) : IntKind.u8.wrap (n : Int) = n := by
  simp [IntKind.wrap, IntKind.bits, IntKind.signed]; omega
theorem ofInt_u8 (x : UInt8) : BitVec.ofInt 8 (x.toNat : Int) = x.toBitVec := by
  apply BitVec.eq_of_toNat_eq
  simp
theorem bits_or (x y : UInt8) : bits BinOp.or IntKind.u8 (x.toNat : Int) (y.toNat : Int) = ((x ||| y).toNat : Int) := by
  show IntKind.u8.wrap ((BitVec.ofInt 8 (x.toNat : Int) ||| BitVec.ofInt 8 (y.toNat : Int)).toNat : Int) = _
  rw [ofInt_u8, ofInt_u8]
  exact wrap_u8 (x ||| y).toNat (x ||| y).toNat_lt
theorem bits_xor (x y : UInt8) : bits BinOp.xor IntKind.u8 (x.toNat : Int) (y.toNat : Int) = ((x ^^^ y).toNat : Int) := by
  show IntKind.u8.wrap ((BitVec.ofInt 8 (x.toNat : Int) ^^^ BitVec.ofInt 8 (y.toNat : Int)).toNat : Int) = _
  rw [ofInt_u8, ofInt_u8]
  exact wrap_u8 (x ^^^ y).toNat (x ^^^ y).toNat_lt

/-- a bool as a number -/
def b2i (b : Bool) : Int := if b then 1 else 0
theorem getD_at (l : Bs) (k : Nat) (h : k < l.length) : l.getD k 0 = l[k] := by simp [List.getD_eq_getElem?_getD, List.getElem?_eq_getElem h]
theorem getD_opt (l : Bs) (k : Nat) : l[k]?.getD 0 = l.getD k 0 := by simp [List.getD_eq_getElem?_getD]
theorem ret_int {k : IntKind} {a b : Int} (h : a = b) : Ending.returned (.int k a) = .returned (.int k b) := by rw [h]

/-- a call of a function without a body: the model's own row for it -/
theorem run_callFunc_ext {P : Program} {f : FuncId} {fn : Func} (hf : P.funcs[f]? = some fn) (args : Array Value) (s : Sem Value) (hname : (fn.name == "runtime.NumGoroutine") = false)
    (hb : fn.body.isNone = true) (hn : (Extern.findNext fn).isNone = true) (he : (Extern.find fn).map (fun e => e args) = some s) (w : World) :
    (callFunc f args).run P w = (s.run P w).andThen fun v w' => .ok (.value v) w' := by
  cases h : Extern.find fn with
  | none => rw [h] at he; cases he
  | some e =>
    rw [h] at he
    simp only [Option.map_some, Option.some.injEq] at he
    subst he
    exact run_callFunc_extern hf hname hb (by simpa using hn) h args w
end Go.Sha
end

section
namespace Go.Sha
open Go.RowKit

section
variable {P : Program} (w : World)
/-- what is not too long to grow -/
theorem fit_of {n m c bytes : Nat} (h : (n + m) * bytes ≤ 140737488355328) : n + m ≤ c ∨ Builtin.nextslicecap (n + m) c * bytes ≤ 281474976710656 := by
  rcases Nat.lt_or_ge c (n + m) with h1 | h1
  · exact .inr (growslice_fits h1 h)
  · exact .inl h1
theorem fit_new {m bytes : Nat} (h : m * bytes ≤ 281474976710656) : 0 + m ≤ 0 ∨ Builtin.nextslicecap (0 + m) 0 * bytes ≤ 281474976710656 := by
  rcases Nat.eq_zero_or_pos m with h1 | h1
  · exact .inl (by omega)
  · refine .inr ?_
    unfold Builtin.nextslicecap
    rw [if_pos (by omega), Nat.zero_add]
    exact h
/-- append, to a row of one's own, of whatever the source yields -/
theorem run_append_own_srcC (base : Nat) (t tx ty e : TypeId) (i : TypeInfo) (z : Value) (size bytes : Nat) (ht : P.underlying t = some (.slice e)) (hi : P.info? e = some i) (hz : i.zero = some z)
    (hsize : i.size = size) (hby : i.bytes = bytes) (hzs : z.cells.size = size)
    (a : Option Addr) (n c : Nat) (xs : List Value) (hown : w.ownsRow base e size (.slice a n c) n xs)
    (x : Value) (m : Nat) (news : List Value) (hs : Src P size tx x m news w)
    (h63 : n + m ≤ maxLen) (hfit : n + m ≤ c ∨ Builtin.nextslicecap (n + m) c * bytes ≤ 281474976710656) (hbase : base ≤ w.heap.size) :
    ∃ a' c' w', (Builtin.append_ #[t, tx] ty #[.slice a n c, x]).run P w = .ok (.slice a' (n + m) c') w' ∧ w'.ownsRow base e size (.slice a' (n + m) c') (n + m) (xs ++ news) ∧ w.grownBy w' (Value.slice a n c).ownBlock ∧ (a' = a ∨ a' = some ⟨w.heap.size, 0, none⟩) ∧ c ≤ c' := by
  subst hsize
  subst hby
  have hsmall : n + m ≤ 9223372036854775807 := by simp only [maxLen] at h63; omega
  have hlen : (xs ++ news).length = (n + m) * i.size := by rw [List.length_append, hown.1, hs.newsLen, Nat.add_mul]
  have grown : ∀ (old : Nat), old < n + m → ∀ (row : Option Nat),
      (w.drew.alloc (.cells ((xs ++ news).toArray ++ Builtin.zeroCells z.cells (grownCap w (n + m) old e - (n + m))) e)).ownsRow base e i.size
        (.slice (some ⟨w.heap.size, 0, none⟩) (n + m) (grownCap w (n + m) old e)) (n + m) (xs ++ news) ∧
      w.grownBy (w.drew.alloc (.cells ((xs ++ news).toArray ++ Builtin.zeroCells z.cells (grownCap w (n + m) old e - (n + m))) e)) row := by
    intro old ho row
    have hge := grownCap_ge w (n + m) old e
    have hcm : grownCap w (n + m) old e ≤ maxLen := grownCap_le_maxLen w (n + m) old e h63
    refine ⟨⟨hlen, .inr ⟨w.heap.size, _, _, rfl, hbase, heap_alloc_new w.drew _, hge, hcm, ?_, ?_⟩⟩, ⟨rfl, rfl, rfl, by simp, fun k hk _ => Below.heap_alloc w.drew _ k hk⟩⟩
    · simp only [Array.size_append, List.size_toArray, size_zeroCells, hzs, hlen, ← Nat.add_mul]
      congr 1
      omega
    · simp only [Array.toList_append]
      rw [← hlen]
      exact List.take_left
  rcases hown.2 with ⟨hv, rfl⟩ | ⟨g, cap, cur, hv, hbg, hg, hnc, hcm, hcs, htake⟩
  · simp only [Value.slice.injEq] at hv
    obtain ⟨rfl, _, rfl⟩ := hv
    have hx : xs = [] := List.eq_nil_of_length_eq_zero (by simpa using hown.1)
    subst hx
    by_cases hm : m = 0
    · subst hm
      have hn : news = [] := List.eq_nil_of_length_eq_zero (by simpa using hs.newsLen)
      subst hn
      refine ⟨none, 0, w, ?_, World.ownsRow_nil w base e i.size, ⟨rfl, rfl, rfl, Nat.le_refl _, fun _ _ _ => rfl⟩, .inl rfl, Nat.le_refl _⟩
      rcases hs.kind with ⟨e', hk⟩ | hk <;> simp [Builtin.append_, run_underlying ht, run_underlying hk, sizeOf, typeInfo, hi, hs.len, hs.cells]
    · have hr := run_append_grow_src (P := P) w t tx ty e i z ht hi hz none 0 0 [] (run_firstCells_none w.drew i.size 0 0 0) x m news hs (by omega) (by omega) (hfit.resolve_left (by omega))
      have hgr := grown 0 (by omega) (Value.ownBlock (.slice none 0 0))
      exact ⟨_, _, _, hr, hgr.1, hgr.2, .inr rfl, Nat.zero_le _⟩
  · simp only [Value.slice.injEq] at hv
    obtain ⟨rfl, _, rfl⟩ := hv
    by_cases hroom : n + m ≤ c
    · have hfit : n * i.size + news.length ≤ cur.size := by rw [hs.newsLen, hcs, ← Nat.add_mul]; exact Nat.mul_le_mul_right _ hroom
      have hst := run_storeCells_at P g (n * i.size) e news 0 cur w hg (by simpa using hfit) hs.one
      simp only [Nat.add_zero] at hst
      have hr : (Builtin.append_ #[t, tx] ty #[.slice (some ⟨g, 0, none⟩) n c, x]).run P w = .ok (.slice (some ⟨g, 0, none⟩) (n + m) c) (w.setRow g (cur.toList.take (n * i.size) ++ news ++ cur.toList.drop (n * i.size + news.length)).toArray) := by
        rcases hs.kind with ⟨e', hk⟩ | hk <;> simp [Builtin.append_, run_underlying ht, run_underlying hk, sizeOf, typeInfo, hi, hs.len, hroom, hs.cells, Addr.add_lit, hst]
      refine ⟨some ⟨g, 0, none⟩, c, _, hr, ⟨hlen, .inr ⟨g, c, _, rfl, hbg, setRow_heap w g cur _ e _ hg, hroom, hcm, ?_, ?_⟩⟩, ⟨rfl, rfl, rfl, by simp, fun k _ hk => setRow_other w g k _ (fun e => hk (by simp [Value.ownBlock, e]))⟩, .inl rfl, Nat.le_refl _⟩
      · simp only [List.size_toArray, List.length_append, List.length_take, List.length_drop, Array.length_toList]
        omega
      · rw [htake, ← hlen]
        exact List.take_left
    · have holds : ∀ j u, xs[j]? = some u → w.cell? ((⟨g, 0, none⟩ : Addr).add j) = some u := hown.cells (g := g) rfl
      have hold := run_firstCells_some (P := P) w.drew i.size n ⟨g, 0, none⟩ n c xs hown.1 (by simpa using holds)
      have hr := run_append_grow_src (P := P) w t tx ty e i z ht hi hz (some ⟨g, 0, none⟩) n c xs hold x m news hs (by omega) (by omega) (hfit.resolve_left (by omega))
      have hgr := grown c (by omega) (Value.ownBlock (.slice (some ⟨g, 0, none⟩) n c))
      exact ⟨_, _, _, hr, hgr.1, hgr.2, .inr rfl, by have := grownCap_ge w (n + m) c e; omega⟩

/-- append, to a row of one's own, of whatever the source yields -/
theorem run_append_own_src (base : Nat) (t tx ty e : TypeId) (i : TypeInfo) (z : Value) (size bytes : Nat) (ht : P.underlying t = some (.slice e)) (hi : P.info? e = some i) (hz : i.zero = some z)
    (hsize : i.size = size) (hby : i.bytes = bytes) (hzs : z.cells.size = size)
    (a : Option Addr) (n c : Nat) (xs : List Value) (hown : w.ownsRow base e size (.slice a n c) n xs)
    (x : Value) (m : Nat) (news : List Value) (hs : Src P size tx x m news w)
    (h63 : n + m ≤ maxLen) (hbytes : (n + m) * bytes ≤ 140737488355328) (hbase : base ≤ w.heap.size) :
    ∃ a' c' w', (Builtin.append_ #[t, tx] ty #[.slice a n c, x]).run P w = .ok (.slice a' (n + m) c') w' ∧ w'.ownsRow base e size (.slice a' (n + m) c') (n + m) (xs ++ news) ∧ w.grownBy w' (Value.slice a n c).ownBlock ∧ (a' = a ∨ a' = some ⟨w.heap.size, 0, none⟩) := by
  obtain ⟨a', c', w', h1, h2, h3, h4, _⟩ := run_append_own_srcC w base t tx ty e i z size bytes ht hi hz hsize hby hzs a n c xs hown x m news hs h63 (fit_of hbytes) hbase
  exact ⟨a', c', w', h1, h2, h3, h4⟩

theorem wp_append_srcN {o : Oper} {a : Act} {K : Act → World → Prop} {Q : Exit → Act → World → Prop} (s x : Operand) (t tx : TypeId)
    (ho : o.op = .call { callee := .builtin .append, args := #[s, x], argTypes := #[t, tx] })
    (base : Nat) (e : TypeId) (i : TypeInfo) (z : Value) (size bytes : Nat) (ht : P.underlying t = some (.slice e)) (hi : P.info? e = some i) (hz : i.zero = some z)
    (hsize : i.size = size) (hby : i.bytes = bytes) (hzs : z.cells.size = size)
    (ad : Option Addr) (n c : Nat) (xs : List Value) (hs : a.eval s = .slice ad n c) (hown : w.ownsRow base e size (.slice ad n c) n xs)
    (xv : Value) (m : Nat) (news : List Value) (hx : a.eval x = xv) (hsrc : Src P size tx xv m news w)
    (h63 : n + m ≤ maxLen) (hbytes : (n + m) * bytes ≤ 140737488355328) (hbase : base ≤ w.heap.size)
    (h : ∀ a' c' w', w'.ownsRow base e size (.slice a' (n + m) c') (n + m) (xs ++ news) → w.grownBy w' (Value.slice ad n c).ownBlock → (a' = ad ∨ a' = some ⟨w.heap.size, 0, none⟩) → K (a.put o.dst (.slice a' (n + m) c')) w') : o.wp P a w K Q := by
  obtain ⟨a', c', w', hr, h2, h3, h4⟩ := run_append_own_src (P := P) w base t tx o.type e i z size bytes ht hi hz hsize hby hzs ad n c xs hown xv m news hsrc h63 hbytes hbase
  unfold Oper.wp execOp
  simp only [ho, resolve, invoke, builtin, Sem.run_bind, Sem.run_pure, Result.andThen_ok, List.map_toArray, List.map_cons, List.map_nil, hs, hx, hr]
  exact h a' c' w' h2 h3 h4

theorem wp_append_src {o : Oper} {a : Act} {K : Act → World → Prop} {Q : Exit → Act → World → Prop} (s x : Operand) (t tx : TypeId)
    (ho : o.op = .call { callee := .builtin .append, args := #[s, x], argTypes := #[t, tx] })
    (base : Nat) (e : TypeId) (i : TypeInfo) (z : Value) (size bytes : Nat) (ht : P.underlying t = some (.slice e)) (hi : P.info? e = some i) (hz : i.zero = some z)
    (hsize : i.size = size) (hby : i.bytes = bytes) (hzs : z.cells.size = size)
    (ad : Option Addr) (n c : Nat) (xs : List Value) (hs : a.eval s = .slice ad n c) (hown : w.ownsRow base e size (.slice ad n c) n xs)
    (xv : Value) (m : Nat) (news : List Value) (hx : a.eval x = xv) (hsrc : Src P size tx xv m news w)
    (h63 : n + m ≤ maxLen) (hbytes : (n + m) * bytes ≤ 140737488355328) (hbase : base ≤ w.heap.size)
    (h : ∀ a' c' w', w'.ownsRow base e size (.slice a' (n + m) c') (n + m) (xs ++ news) → w.grownBy w' (Value.slice ad n c).ownBlock → K (a.put o.dst (.slice a' (n + m) c')) w') : o.wp P a w K Q :=
  wp_append_srcN w s x t tx ho base e i z size bytes ht hi hz hsize hby hzs ad n c xs hs hown xv m news hx hsrc h63 hbytes hbase fun a' c' w' h2 h3 _ => h a' c' w' h2 h3

/-- append, to a row of one's own, of whatever the source yields: as an operation's law -/
theorem wpList_append_src {ops : Array Oper} {rest : List Oper} {o : Oper} {a : Act} {Q : Exit → Act → World → Prop} (hgd : o.guard = none) (s x : Operand) (t tx : TypeId)
    (ho : o.op = .call { callee := .builtin .append, args := #[s, x], argTypes := #[t, tx] })
    (base : Nat) (e : TypeId) (i : TypeInfo) (z : Value) (size bytes : Nat) (ht : P.underlying t = some (.slice e)) (hi : P.info? e = some i) (hz : i.zero = some z)
    (hsize : i.size = size) (hby : i.bytes = bytes) (hzs : z.cells.size = size)
    (ad : Option Addr) (n c : Nat) (xs : List Value) (hs : a.eval s = .slice ad n c) (hown : w.ownsRow base e size (.slice ad n c) n xs)
    (xv : Value) (m : Nat) (news : List Value) (hx : a.eval x = xv) (hsrc : Src P size tx xv m news w)
    (h63 : n + m ≤ maxLen) (hbytes : (n + m) * bytes ≤ 140737488355328) (hbase : base ≤ w.heap.size)
    (h : ∀ a' c' w', w'.ownsRow base e size (.slice a' (n + m) c') (n + m) (xs ++ news) → w.grownBy w' (Value.slice ad n c).ownBlock → wpList P ops Q rest (a.put o.dst (.slice a' (n + m) c')) w') : wpList P ops Q (o :: rest) a w :=
  wpList_plain hgd fun _ hK => wp_append_src w s x t tx ho base e i z size bytes ht hi hz hsize hby hzs ad n c xs hs hown xv m news hx hsrc h63 hbytes hbase fun a' c' w' h2 h3 => hK _ _ (h a' c' w' h2 h3)

theorem wpList_append_srcN {ops : Array Oper} {rest : List Oper} {o : Oper} {a : Act} {Q : Exit → Act → World → Prop} (hgd : o.guard = none) (s x : Operand) (t tx : TypeId)
    (ho : o.op = .call { callee := .builtin .append, args := #[s, x], argTypes := #[t, tx] })
    (base : Nat) (e : TypeId) (i : TypeInfo) (z : Value) (size bytes : Nat) (ht : P.underlying t = some (.slice e)) (hi : P.info? e = some i) (hz : i.zero = some z)
    (hsize : i.size = size) (hby : i.bytes = bytes) (hzs : z.cells.size = size)
    (ad : Option Addr) (n c : Nat) (xs : List Value) (hs : a.eval s = .slice ad n c) (hown : w.ownsRow base e size (.slice ad n c) n xs)
    (xv : Value) (m : Nat) (news : List Value) (hx : a.eval x = xv) (hsrc : Src P size tx xv m news w)
    (h63 : n + m ≤ maxLen) (hbytes : (n + m) * bytes ≤ 140737488355328) (hbase : base ≤ w.heap.size)
    (h : ∀ a' c' w', w'.ownsRow base e size (.slice a' (n + m) c') (n + m) (xs ++ news) → w.grownBy w' (Value.slice ad n c).ownBlock → (a' = ad ∨ a' = some ⟨w.heap.size, 0, none⟩) → wpList P ops Q rest (a.put o.dst (.slice a' (n + m) c')) w') : wpList P ops Q (o :: rest) a w :=
  wpList_plain hgd fun _ hK => wp_append_srcN w s x t tx ho base e i z size bytes ht hi hz hsize hby hzs ad n c xs hs hown xv m news hx hsrc h63 hbytes hbase fun a' c' w' h2 h3 h4 => hK _ _ (h a' c' w' h2 h3 h4)

/-- the same, as a step of a region that draws its order -/
theorem step_append_src {ops : Array Oper} {o : Oper} {a : Act} {K : Act → World → Prop} {Q : Exit → Act → World → Prop} {E : Prop} (hgd : o.guard = none) (s x : Operand) (t tx : TypeId)
    (ho : o.op = .call { callee := .builtin .append, args := #[s, x], argTypes := #[t, tx] })
    (base : Nat) (e : TypeId) (i : TypeInfo) (z : Value) (size bytes : Nat) (ht : P.underlying t = some (.slice e)) (hi : P.info? e = some i) (hz : i.zero = some z)
    (hsize : i.size = size) (hby : i.bytes = bytes) (hzs : z.cells.size = size)
    (ad : Option Addr) (n c : Nat) (xs : List Value) (hs : a.eval s = .slice ad n c) (hown : w.ownsRow base e size (.slice ad n c) n xs)
    (xv : Value) (m : Nat) (news : List Value) (hx : a.eval x = xv) (hsrc : Src P size tx xv m news w)
    (h63 : n + m ≤ maxLen) (hbytes : (n + m) * bytes ≤ 140737488355328) (hbase : base ≤ w.heap.size)
    (h : ∀ a' c' w', w'.ownsRow base e size (.slice a' (n + m) c') (n + m) (xs ++ news) → w.grownBy w' (Value.slice ad n c).ownBlock → K (a.put o.dst (.slice a' (n + m) c')) w') :
    if Region.wanted o (yielded ops a.tmps) = true then Oper.wp P o a w K Q else E := by
  have hw : Region.wanted o (yielded ops a.tmps) = true := by simp [Region.wanted, hgd]
  rw [if_pos hw]
  exact wp_append_src w s x t tx ho base e i z size bytes ht hi hz hsize hby hzs ad n c xs hs hown xv m news hx hsrc h63 hbytes hbase h

/-- the same, as a step of a region that draws its order -/
theorem step_append_srcN {ops : Array Oper} {o : Oper} {a : Act} {K : Act → World → Prop} {Q : Exit → Act → World → Prop} {E : Prop} (hgd : o.guard = none) (s x : Operand) (t tx : TypeId)
    (ho : o.op = .call { callee := .builtin .append, args := #[s, x], argTypes := #[t, tx] })
    (base : Nat) (e : TypeId) (i : TypeInfo) (z : Value) (size bytes : Nat) (ht : P.underlying t = some (.slice e)) (hi : P.info? e = some i) (hz : i.zero = some z)
    (hsize : i.size = size) (hby : i.bytes = bytes) (hzs : z.cells.size = size)
    (ad : Option Addr) (n c : Nat) (xs : List Value) (hs : a.eval s = .slice ad n c) (hown : w.ownsRow base e size (.slice ad n c) n xs)
    (xv : Value) (m : Nat) (news : List Value) (hx : a.eval x = xv) (hsrc : Src P size tx xv m news w)
    (h63 : n + m ≤ maxLen) (hbytes : (n + m) * bytes ≤ 140737488355328) (hbase : base ≤ w.heap.size)
    (h : ∀ a' c' w', w'.ownsRow base e size (.slice a' (n + m) c') (n + m) (xs ++ news) → w.grownBy w' (Value.slice ad n c).ownBlock → (a' = ad ∨ a' = some ⟨w.heap.size, 0, none⟩) → K (a.put o.dst (.slice a' (n + m) c')) w') :
    if Region.wanted o (yielded ops a.tmps) = true then Oper.wp P o a w K Q else E := by
  have hw : Region.wanted o (yielded ops a.tmps) = true := by simp [Region.wanted, hgd]
  rw [if_pos hw]
  exact wp_append_srcN w s x t tx ho base e i z size bytes ht hi hz hsize hby hzs ad n c xs hs hown xv m news hx hsrc h63 hbytes hbase h

/-- the same where there is room, or where what is asked is not too long; the room never shrinks -/
theorem wp_append_srcC {o : Oper} {a : Act} {K : Act → World → Prop} {Q : Exit → Act → World → Prop} (s x : Operand) (t tx : TypeId)
    (ho : o.op = .call { callee := .builtin .append, args := #[s, x], argTypes := #[t, tx] })
    (base : Nat) (e : TypeId) (i : TypeInfo) (z : Value) (size bytes : Nat) (ht : P.underlying t = some (.slice e)) (hi : P.info? e = some i) (hz : i.zero = some z)
    (hsize : i.size = size) (hby : i.bytes = bytes) (hzs : z.cells.size = size)
    (ad : Option Addr) (n c : Nat) (xs : List Value) (hs : a.eval s = .slice ad n c) (hown : w.ownsRow base e size (.slice ad n c) n xs)
    (xv : Value) (m : Nat) (news : List Value) (hx : a.eval x = xv) (hsrc : Src P size tx xv m news w)
    (h63 : n + m ≤ maxLen) (hfit : n + m ≤ c ∨ Builtin.nextslicecap (n + m) c * bytes ≤ 281474976710656) (hbase : base ≤ w.heap.size)
    (h : ∀ a' c' w', w'.ownsRow base e size (.slice a' (n + m) c') (n + m) (xs ++ news) → w.grownBy w' (Value.slice ad n c).ownBlock → (a' = ad ∨ a' = some ⟨w.heap.size, 0, none⟩) → c ≤ c' → K (a.put o.dst (.slice a' (n + m) c')) w') : o.wp P a w K Q := by
  obtain ⟨a', c', w', hr, h2, h3, h4, h5⟩ := run_append_own_srcC (P := P) w base t tx o.type e i z size bytes ht hi hz hsize hby hzs ad n c xs hown xv m news hsrc h63 hfit hbase
  unfold Oper.wp execOp
  simp only [ho, resolve, invoke, builtin, Sem.run_bind, Sem.run_pure, Result.andThen_ok, List.map_toArray, List.map_cons, List.map_nil, hs, hx, hr]
  exact h a' c' w' h2 h3 h4 h5

theorem wpList_append_srcC {ops : Array Oper} {rest : List Oper} {o : Oper} {a : Act} {Q : Exit → Act → World → Prop} (hgd : o.guard = none) (s x : Operand) (t tx : TypeId)
    (ho : o.op = .call { callee := .builtin .append, args := #[s, x], argTypes := #[t, tx] })
    (base : Nat) (e : TypeId) (i : TypeInfo) (z : Value) (size bytes : Nat) (ht : P.underlying t = some (.slice e)) (hi : P.info? e = some i) (hz : i.zero = some z)
    (hsize : i.size = size) (hby : i.bytes = bytes) (hzs : z.cells.size = size)
    (ad : Option Addr) (n c : Nat) (xs : List Value) (hs : a.eval s = .slice ad n c) (hown : w.ownsRow base e size (.slice ad n c) n xs)
    (xv : Value) (m : Nat) (news : List Value) (hx : a.eval x = xv) (hsrc : Src P size tx xv m news w)
    (h63 : n + m ≤ maxLen) (hfit : n + m ≤ c ∨ Builtin.nextslicecap (n + m) c * bytes ≤ 281474976710656) (hbase : base ≤ w.heap.size)
    (h : ∀ a' c' w', w'.ownsRow base e size (.slice a' (n + m) c') (n + m) (xs ++ news) → w.grownBy w' (Value.slice ad n c).ownBlock → c ≤ c' → wpList P ops Q rest (a.put o.dst (.slice a' (n + m) c')) w') : wpList P ops Q (o :: rest) a w :=
  wpList_plain hgd fun _ hK => wp_append_srcC w s x t tx ho base e i z size bytes ht hi hz hsize hby hzs ad n c xs hs hown xv m news hx hsrc h63 hfit hbase fun a' c' w' h2 h3 _ h5 => hK _ _ (h a' c' w' h2 h3 h5)

theorem step_append_srcC {ops : Array Oper} {o : Oper} {a : Act} {K : Act → World → Prop} {Q : Exit → Act → World → Prop} {E : Prop} (hgd : o.guard = none) (s x : Operand) (t tx : TypeId)
    (ho : o.op = .call { callee := .builtin .append, args := #[s, x], argTypes := #[t, tx] })
    (base : Nat) (e : TypeId) (i : TypeInfo) (z : Value) (size bytes : Nat) (ht : P.underlying t = some (.slice e)) (hi : P.info? e = some i) (hz : i.zero = some z)
    (hsize : i.size = size) (hby : i.bytes = bytes) (hzs : z.cells.size = size)
    (ad : Option Addr) (n c : Nat) (xs : List Value) (hs : a.eval s = .slice ad n c) (hown : w.ownsRow base e size (.slice ad n c) n xs)
    (xv : Value) (m : Nat) (news : List Value) (hx : a.eval x = xv) (hsrc : Src P size tx xv m news w)
    (h63 : n + m ≤ maxLen) (hfit : n + m ≤ c ∨ Builtin.nextslicecap (n + m) c * bytes ≤ 281474976710656) (hbase : base ≤ w.heap.size)
    (h : ∀ a' c' w', w'.ownsRow base e size (.slice a' (n + m) c') (n + m) (xs ++ news) → w.grownBy w' (Value.slice ad n c).ownBlock → c ≤ c' → K (a.put o.dst (.slice a' (n + m) c')) w') :
    if Region.wanted o (yielded ops a.tmps) = true then Oper.wp P o a w K Q else E := by
  have hw : Region.wanted o (yielded ops a.tmps) = true := by simp [Region.wanted, hgd]
  rw [if_pos hw]
  exact wp_append_srcC w s x t tx ho base e i z size bytes ht hi hz hsize hby hzs ad n c xs hs hown xv m news hx hsrc h63 hfit hbase fun a' c' w' h2 h3 _ h5 => h a' c' w' h2 h3 h5

/-- a slice that reads as bytes, as what is appended -/
theorem Sl.src {a : Option Addr} {n c : Nat} {l : Bs} {tx e' : TypeId} {w : World} (h : Sl w a n c l) (hk : P.underlying tx = some (.slice e')) : Src P 1 tx (.slice a n c) n (l.map bv) w := by
  have h1 : ∀ u ∈ l.map bv, u.oneCell' = true := fun u hu => by
    obtain ⟨_, _, rfl⟩ := List.mem_map.1 hu
    rfl
  have hl : (l.map bv).length = n * 1 := by simp [h.len]
  rcases h.cel with h0 | ⟨b, o, rfl, hc⟩
  · subst h0
    have : l = [] := List.eq_nil_of_length_eq_zero h.len
    subst this
    cases a with
    | none => exact Src.ofNil w hk c
    | some ad => exact Src.ofSlice w hk ad 0 c [] (by simp) (by simp) (by simp)
  · refine Src.ofSlice w hk ⟨b, o, none⟩ n c (l.map bv) hl (fun j u hu => ?_) h1
    have hj : j < n := by
      have := (List.getElem?_eq_some_iff.1 hu).1
      simpa [h.len] using this
    have hadd : (⟨b, o, none⟩ : Addr).add j = ⟨b, o + j, none⟩ := by unfold Addr.add; split <;> simp_all
    rw [hadd, hc j hj, ← hu]
    simp [bv, List.getD_eq_getElem?_getD, List.getElem?_eq_getElem (show j < l.length by rw [h.len]; exact hj)]
end

theorem Ow.nil (w : World) (base e : Nat) : Ow w base e none 0 [] := World.ownsRow_nil w base e 1
theorem Ow.of {w : World} {base e n c : Nat} {a : Option Addr} {l : Bs} {xs : List Value} (h : w.ownsRow base e 1 (.slice a n c) n xs) (hn : n = l.length) (hx : xs = l.map bv) : Ow w base e a c l := by
  subst hn; subst hx; exact h
theorem Ow.mono {w : World} {base base' e c : Nat} {a : Option Addr} {l : Bs} (h : Ow w base e a c l) (hb : base' ≤ base) : Ow w base' e a c l := by
  obtain ⟨h1, h2⟩ := h
  refine ⟨h1, ?_⟩
  rcases h2 with h2 | ⟨g, cap, cur, hv, hg, r⟩
  · exact .inl h2
  · exact .inr ⟨g, cap, cur, hv, by omega, r⟩
theorem Ow.len_le {w : World} {base e c : Nat} {a : Option Addr} {l : Bs} (h : Ow w base e a c l) : l.length ≤ maxLen := Nat.le_trans h.sl.cap h.sl.max
/-- a row of one's own stays while other blocks turn -/
theorem Ow.keep {S : List Nat} {w w' : World} {base e c : Nat} {a : Option Addr} {l : Bs} (h : Ow w base e a c l) (hf : Fr S w w') (hs : ∀ k, base ≤ k → k ∉ S) : Ow w' base e a c l := by
  obtain ⟨h1, h2⟩ := h
  refine ⟨h1, ?_⟩
  rcases h2 with h2 | ⟨g, cap, cur, hv, hg, hh, r⟩
  · exact .inl h2
  · exact .inr ⟨g, cap, cur, hv, hg, hf.obj hh (hs g hg), r⟩
theorem Ow.keep0 {w w' : World} {base e c : Nat} {a : Option Addr} {l : Bs} (h : Ow w base e a c l) (hf : Fr [] w w') : Ow w' base e a c l := h.keep hf (by simp)
/-- where the row lies -/
theorem Ow.block {w : World} {base e c : Nat} {ad : Addr} {l : Bs} (h : Ow w base e (some ad) c l) : ad.spot = none ∧ ad.off = 0 ∧ base ≤ ad.block ∧ ad.block < w.heap.size := by
  obtain ⟨h1, h2⟩ := h
  rcases h2 with ⟨h2, _⟩ | ⟨g, cap, cur, hv, hg, hh, r⟩
  · simp at h2
  · simp only [Value.slice.injEq, Option.some.injEq] at hv
    obtain ⟨rfl, _, _⟩ := hv
    exact ⟨rfl, rfl, hg, (Array.getElem?_eq_some_iff.1 hh).1⟩
/-- a new block of one byte, as a slice -/
theorem Sl.one (w : World) (u : UInt8) (e : Nat) : Sl (w.alloc (.cells #[.int .u8 u.toNat] e)) (some ⟨w.heap.size, 0, none⟩) 1 1 [u] := by
  refine ⟨rfl, Nat.le_refl _, by simp [maxLen], .inr ⟨w.heap.size, 0, rfl, fun i hi => ?_⟩⟩
  obtain rfl : i = 0 := by omega
  have h : (w.alloc (.cells #[.int .u8 u.toNat] e)).heap[w.heap.size]? = some (.cells #[.int .u8 u.toNat] e) := Go.heap_alloc_new w _
  simp only [World.cell?, h]
  rfl
/-- a slice just made -/
theorem Ow.made (w : World) (n e : Nat) (hn : n ≤ maxLen) : Ow (w.alloc (.cells (madeCells #[.int .u8 0] n) e)) w.heap.size e (some ⟨w.heap.size, 0, none⟩) n (List.replicate n 0) := by
  refine ⟨by simp, .inr ⟨w.heap.size, n, madeCells #[.int .u8 0] n, by simp, Nat.le_refl _, Go.heap_alloc_new w _, by simp, hn, by simp [size_madeCells], ?_⟩⟩
  rw [toList_madeCells_one]
  simp [bv]
/-- a row of one's own that holds something: its block, its cells -/
theorem Ow.open {w : World} {base e c : Nat} {a : Option Addr} {l : Bs} (h : Ow w base e a c l) (hl : 0 < l.length) :
    ∃ g cur, a = some ⟨g, 0, none⟩ ∧ base ≤ g ∧ w.heap[g]? = some (.cells cur e (0, 0)) ∧ l.length ≤ c ∧ c ≤ maxLen ∧ cur.size = c ∧ cur.toList.take l.length = l.map bv := by
  obtain ⟨h1, h2⟩ := h
  rcases h2 with ⟨_, h2⟩ | ⟨g, cap, cur, hv, hg, hh, hn, hm, hs, ht⟩
  · omega
  · simp only [Value.slice.injEq] at hv
    obtain ⟨rfl, _, rfl⟩ := hv
    exact ⟨g, cur, rfl, hg, hh, hn, hm, by simpa using hs, by simpa using ht⟩
theorem Ow.cell {w : World} {base e c g : Nat} {l : Bs} (h : Ow w base e (some ⟨g, 0, none⟩) c l) {k : Nat} (hk : k < l.length) :
    w.cell? ⟨g, k, none⟩ = some (.int .u8 (l.getD k 0).toNat) ∧ w.frozen? ⟨g, k, none⟩ = false := by
  obtain ⟨g', cur, hg, _, hh, _, _, hs, ht⟩ := h.open (by omega)
  simp only [Option.some.injEq, Addr.mk.injEq] at hg
  obtain ⟨rfl, _, _⟩ := hg
  refine ⟨?_, by simp [World.frozen?, hh]⟩
  have h4 : (cur.toList.take l.length)[k]? = (l.map bv)[k]? := by rw [ht]
  rw [List.getElem?_take_of_lt hk] at h4
  simp only [World.cell?, hh]
  simp only [Array.getElem?_toList, List.getElem?_map, List.getElem?_eq_getElem hk, Option.map_some] at h4
  simp [h4, bv, List.getElem?_eq_getElem hk]
theorem heap_setCell_same {w : World} {g k e : Nat} {cur : Array Value} {fz : Nat × Nat} (h : w.heap[g]? = some (.cells cur e fz)) (v : Value) :
    (w.setCell ⟨g, k, none⟩ v).heap[g]? = some (.cells (cur.setIfInBounds k v) e fz) := by
  simp only [World.setCell, Array.getElem?_modify, if_true, h, Option.map_some]
  rfl
/-- a store into a row of one's own -/
theorem Ow.set {w : World} {base e c g : Nat} {l : Bs} (h : Ow w base e (some ⟨g, 0, none⟩) c l) {k : Nat} (hk : k < l.length) (v : UInt8) :
    Ow (w.setCell ⟨g, k, none⟩ (.int .u8 v.toNat)) base e (some ⟨g, 0, none⟩) c (l.set k v) := by
  obtain ⟨g', cur, hg, hb, hh, hc, hm, hs, ht⟩ := h.open (by omega)
  simp only [Option.some.injEq, Addr.mk.injEq] at hg
  obtain ⟨rfl, _, _⟩ := hg
  refine ⟨by simp, .inr ⟨g, c, _, by simp, hb, heap_setCell_same hh _, by simpa using hc, hm, by simpa using hs, ?_⟩⟩
  simp only [List.length_set, Nat.mul_one, Array.toList_setIfInBounds, List.take_set, ht, List.map_set, bv]
/-- the beginning of a slice -/
theorem Sl.take {w : World} {a : Option Addr} {n c : Nat} {l : Bs} (h : Sl w a n c l) (k : Nat) (hk : k ≤ n) : Sl w a k c (l.take k) := by
  have h1 := h.len
  have h2 := h.cap
  refine ⟨by simp; omega, by omega, h.max, ?_⟩
  rcases h.cel with h0 | ⟨b, o, rfl, hc⟩
  · exact .inl (by omega)
  · refine .inr ⟨b, o, rfl, fun i hi => ?_⟩
    rw [hc i (by omega)]
    simp [List.getD_eq_getElem?_getD, List.getElem?_take_of_lt hi]
theorem Sl.lt {w : World} {a : Option Addr} {n c : Nat} {l : Bs} (h : Sl w a n c l) {x : Addr} (hx : a = some x) (hn : n ≠ 0) : x.block < w.heap.size := by
  rcases h.cel with h0 | ⟨b, o, rfl, hc⟩
  · exact absurd h0 hn
  · simp only [Option.some.injEq] at hx
    subst hx
    exact World.block_lt_of_cell? w _ (hc 0 (by omega))
end Go.Sha
end

section
namespace Go.Proofs.Ytkijnpjefccepaa
open Go.ChangeShapes Go.WideShapes Go.ChangeAt Go.RowKit Go.Sha

theorem info5 : (Try.prog.info? 5).map (fun i => (i.zero, i.size, i.bytes)) = some (some (.int .u8 0), 1, 1) := by kernel_rfl

/-- own: a copy in new memory -/
theorem own_any (a0 : Option Addr) (n c : Nat) (l : Bs) (w : World) (h : Sl w a0 n c l) (hn : n ≤ 140737488355328) :
    Calls Try.prog 16 #[.slice a0 n c] w (RetO 5 l w) := by
  obtain ⟨i0, hi, hz0, hz1, hz2⟩ := info_parts info5
  go_enter Try.func16, Try.ntmps16
  go_wp2_with (at_builtin; refine wpList_append_src _ rfl _ _ 22 22 rfl w.heap.size 5 i0 (.int .u8 0) 1 1 Try.underlying22 hi hz0 hz1 hz2 rfl none 0 0 [] rfl (World.ownsRow_nil _ _ _ _) _ n (l.map bv) rfl (h.src Try.underlying22) ?c1 ?c2 ?c3 ?_)
  case c1 => unfold maxLen; omega
  case c2 => omega
  case c3 => exact Nat.le_refl _
  intro a' c' w' ho hg
  go_wp2
  go_ret
  have hl := h.len
  subst hl
  exact ⟨a', c', rfl, ho, (Fr.refl _ _).grown hg (by simp [Value.ownBlock])⟩

theorem make_bytes (n : Nat) (hn : n ≤ 140737488355328) : ∀ u : World, (Instr.makeSlice 22 (.int .i64 (n : Int)) (.int .i64 (n : Int))).run Try.prog u =
    .ok (.slice (some ⟨u.heap.size, 0, none⟩) n n) (u.alloc (.cells (madeCells #[.int .u8 0] n) 5)) := fun u => by
  obtain ⟨i0, hi, hz0, hz1, hz2⟩ := info_parts info5
  have h := run_make (P := Try.prog) u 22 5 i0 (.int .u8 0) Try.underlying22 hi hz0 .i64 .i64 (n : Int) (n : Int) (by omega) (Int.le_refl _) (by rw [hz2]; omega) (by omega)
  have e : ((n : Int)).toNat = n := by omega
  rw [e] at h
  simpa [hz1, Value.cells] using h

theorem make_lit (n : Nat) (z : Int) (hz : z = n) (hn : n ≤ 140737488355328) : ∀ u : World, (Instr.makeSlice 22 (.int .i64 z) (.int .i64 z)).run Try.prog u =
    .ok (.slice (some ⟨u.heap.size, 0, none⟩) n n) (u.alloc (.cells (madeCells #[.int .u8 0] n) 5)) := by subst hz; exact make_bytes n hn
end Go.Proofs.Ytkijnpjefccepaa
end

section
namespace Go.Sha
open Go.RowKit Go.ChangeShapes Go.WideShapes Go.ChangeAt

def toB (z : Int) : UInt8 := UInt8.ofNat z.toNat
theorem toB_nat (z : Int) (h0 : 0 ≤ z) (h1 : z ≤ 255) : ((toB z).toNat : Int) = z := by
  unfold toB
  rw [UInt8.toNat_ofNat']
  omega
theorem wf_u8 {z : Int} (h : (Lit.int .u8 z).wf = true) : 0 ≤ z ∧ z ≤ 255 := by
  simp [Lit.wf, IntKind.min, IntKind.max, IntKind.signed, IntKind.bits] at h
  omega
theorem lits_length {H : Type} (k : IntKind) (zs : List Int) : (lits (H := H) k zs).length = zs.length := by simp [lits]

/-- what a datum says of the lengths of the slice that it was read from -/
def DLen {H : Type} (d : DataW H) (len cap : Nat) : Prop :=
  (d = .nil ∧ len = 0 ∧ cap = 0) ∨ ∃ es sp, d = .slice es sp ∧ es.length + sp.length = cap ∧ len ≤ cap

section
variable {H : Type} {enc : TypeId × Value → H} {P : Program} {w : World}
theorem open_bytes {t e : TypeId} {base fuel len cap : Nat} {held : Bool} {a : Option Addr} {d : DataW H} {p : List MemPlace} (ht : P.underlying t = some (.slice e)) (he : P.underlying e = some (.int .u8)) (hc : P.cellsOf e = 1)
    (h : DataW.trod enc P w base (fun _ => true) held fuel t (Value.slice a len cap).cells.toList = some (d, p)) : ∃ l : Bs, Sl w a len cap l ∧ DLen d len cap := by
  rcases open_ints ht he hc h with ⟨hcs, hx⟩ | ⟨x, l, c, zs, hcs, _, hl, hm, hz, hx, hcell, hwz⟩
  · simp [Value.cells] at hcs
    obtain ⟨rfl, rfl, rfl⟩ := hcs
    simp only [Prod.mk.injEq] at hx
    exact ⟨[], ⟨rfl, Nat.le_refl _, by simp [maxLen], .inl rfl⟩, .inl ⟨hx.1, rfl, rfl⟩⟩
  · simp [Value.cells] at hcs
    obtain ⟨rfl, rfl, rfl⟩ := hcs
    simp only [if_true] at hz
    simp only [Prod.mk.injEq] at hx
    refine ⟨(zs.take len).map toB, ⟨by simp; omega, hl, hm, ?_⟩, .inr ⟨_, _, hx.1, by simp [lits_length]; omega, hl⟩⟩
    by_cases h0 : len = 0
    · exact .inl h0
    · right
      obtain ⟨b, o, s⟩ := x
      have hs : s = none := by
        have := hcell 0 (by omega)
        simp only [Addr.add, if_true, World.cell?] at this
        cases s with
        | none => rfl
        | some _ =>
          exfalso
          revert this
          split <;> simp
      subst hs
      refine ⟨b, o, rfl, fun i hi => ?_⟩
      have hadd : (⟨b, o, none⟩ : Addr).add i = ⟨b, o + i, none⟩ := by unfold Addr.add; split <;> simp_all
      rw [← hadd, hcell i (by omega)]
      have hi2 : i < zs.length := by omega
      have hmem : zs[i] ∈ zs := List.getElem_mem hi2
      have hw := wf_u8 (hwz _ hmem)
      simp only [List.getD_eq_getElem?_getD, List.getElem?_map, List.getElem?_take_of_lt hi, List.getElem?_eq_getElem hi2, Option.map_some, Option.getD_some]
      rw [toB_nat _ hw.1 hw.2]

theorem DLen.reach {d : DataW H} {len cap j : Nat} {t e : TypeId} {ts : List TypeId} {ds : List (DataW H)} (h : DLen d len cap) (hsz : (DataW.weightsEach P ts ds).all (· ≤ reachBytes) = true)
    (ht : ts[j]? = some t) (hd : ds[j]? = some d) (hu : P.underlying t = some (.slice e)) (hb : P.bytesOf e = 1) : len ≤ 140737488351232 ∧ cap ≤ 140737488351232 := by
  rcases h with ⟨_, rfl, rfl⟩ | ⟨es, sp, rfl, h1, h2⟩
  · omega
  · have := sized_slice hsz ht hd hu
    rw [hb] at this
    simp only [reachBytes] at this
    omega
end
end Go.Sha
end

section
namespace Go.Proofs.Ytkijnpjefccepaa
open Go.ChangeShapes Go.WideShapes Go.ChangeAt Go.RowKit Go.Sha
theorem bulk_pos {H : Type} (d : DataW H) : 1 ≤ Rows.uptoBulk d := by
  cases d with
  | lit l => cases l <;> simp [Rows.uptoBulk]
  | _ => simp [Rows.uptoBulk]
theorem bulk_all {H : Type} (ds : List (DataW H)) : ds.length ≤ Rows.uptoBulkAll ds := by
  induction ds with
  | nil => simp [Rows.uptoBulkAll]
  | cons d ds ih =>
    have := bulk_pos d
    simp only [Rows.uptoBulkAll, List.length_cons]
    omega
theorem DLen_bulk {H : Type} {d : DataW H} {len cap : Nat} (h : DLen d len cap) : len ≤ cap ∧ cap ≤ Rows.uptoBulk d := by
  rcases h with ⟨rfl, rfl, rfl⟩ | ⟨es, sp, rfl, h1, h2⟩
  · simp
  · have h3 := bulk_all es
    have h4 := bulk_all sp
    simp only [Rows.uptoBulk]
    omega
end Go.Proofs.Ytkijnpjefccepaa
end

section
namespace Go.Proofs.Ytkijnpjefccepaa
open Go.ChangeShapes Go.WideShapes Go.ChangeAt Go.RowKit Go.Sha

/-- the first k bytes are the same -/
def SameRel (w : World) (x y : Bs) (n : Nat) (i : Value) (wr : World) : Prop :=
  ∃ k : Nat, k ≤ n ∧ i = .int .i64 k ∧ x.take k = y.take k ∧ Fr [] w wr
theorem take_snoc_eq {x y : Bs} {k n : Nat} (hx : x.length = n) (hy : y.length = n) (h : k < n) (ht : x.take k = y.take k) (he : x.getD k 0 = y.getD k 0) : x.take (k + 1) = y.take (k + 1) := by
  rw [List.take_succ_eq_append_getElem (by omega), List.take_succ_eq_append_getElem (by omega), ht, ← getD_at x k (by omega), ← getD_at y k (by omega), he]
theorem same_no {x y : Bs} {k : Nat} (he : ¬ x.getD k 0 = y.getD k 0) : (x == y) = false := by
  rw [beq_eq_false_iff_ne]
  rintro rfl
  exact he rfl
theorem same_yes {x y : Bs} {n : Nat} (hx : x.length = n) (hy : y.length = n) (ht : x.take n = y.take n) : (x == y) = true := by
  rw [beq_iff_eq]
  rwa [List.take_of_length_le (by omega), List.take_of_length_le (by omega)] at ht
theorem same_len {x y : Bs} {n m : Nat} (hx : x.length = n) (hy : y.length = m) (h : n ≠ m) : (x == y) = false := by
  rw [beq_eq_false_iff_ne]
  rintro rfl
  exact h (hx.symm.trans hy)
theorem nat_ne {a b : UInt8} (h : ¬ a = b) : ((a.toNat : Int) != (b.toNat : Int)) = true := by
  rw [bne_iff_ne]
  intro e
  exact h (UInt8.toNat_inj.1 (by omega))
theorem nat_eq {a b : UInt8} (h : a = b) : ((a.toNat : Int) != (b.toNat : Int)) = false := by
  subst h; simp

end Go.Proofs.Ytkijnpjefccepaa
end

section
namespace Go.Proofs.Ytkijnpjefccepaa
open Go.ChangeShapes Go.WideShapes Go.ChangeAt Go.RowKit Go.Sha

set_option maxHeartbeats 400000 in
theorem same_same (a0 b0 : Option Addr) (n ca cb : Nat) (x y : Bs) (w : World) (hx : Sl w a0 n ca x) (hy : Sl w b0 n cb y) :
    Calls Try.prog 20 #[.slice a0 n ca, .slice b0 n cb] w (RetB (x == y) w) := by
  have hm := hx.max
  have hc := hx.cap
  unfold maxLen at hm
  generalize hr : (x == y) = r
  have HR := Lib.hid hr
  clear hr
  go_enter Try.func20, Try.ntmps20
  go_wp2
  go_loopw [5, 13] (fun _ i wr => SameRel w x y n i wr) (fun _ i _ => n - (intOf i).toNat)
  case atStart => exact ⟨0, Nat.zero_le _, rfl, by simp, Fr.refl _ _⟩
  case round =>
    obtain ⟨k, hk, rfl, hu, hf⟩ := hrel
    have HU := Lib.hid hu
    clear hu
    by_cases hlt : k < n
    · rcases hx.cel with h0 | ⟨b, o, rfl, hcx⟩
      · omega
      rcases hy.cel with h0 | ⟨b', o', rfl, hcy⟩
      · omega
      have q1 := hf.cell (hcx k hlt) (by simp)
      have q2 := hf.cell (hcy k hlt) (by simp)
      generalize hX : x.getD k 0 = X at q1
      generalize hY : y.getD k 0 = Y at q2
      have HX := Lib.hid hX
      have HY := Lib.hid hY
      clear hX hY hcx hcy
      by_cases hne : X = Y
      · have hd := nat_eq hne
        have HE := Lib.hid hne
        clear hne
        go_wp2
        go_quiet (fail)
        go_wp2
        refine ⟨⟨k + 1, hlt, by simp, take_snoc_eq hx.len hy.len hlt HU.out (by rw [HX.out, HY.out]; exact HE.out), hf.drewN _⟩, ?_⟩
        simp [intOf]; omega
      · have hd := nat_ne hne
        have HE := Lib.hid hne
        clear hne
        go_wp2
        go_quiet (fail)
        go_wp2
        go_ret
        have h1 : (x == y) = false := same_no (k := k) (by rw [HX.out, HY.out]; exact HE.out)
        rw [← HR.out, h1]
        exact ⟨rfl, hf.drewN _⟩
    · go_wp2
      go_ret
      obtain rfl : k = n := by omega
      rw [← HR.out, same_yes hx.len hy.len HU.out]
      exact ⟨rfl, hf⟩

/-- same tells whether the two read as the same bytes -/
theorem same_any (a0 b0 : Option Addr) (n m ca cb : Nat) (x y : Bs) (w : World) (hx : Sl w a0 n ca x) (hy : Sl w b0 m cb y) :
    Calls Try.prog 20 #[.slice a0 n ca, .slice b0 m cb] w (RetB (x == y) w) := by
  by_cases h : n = m
  · subst h
    exact same_same a0 b0 n ca cb x y w hx hy
  · rw [same_len hx.len hy.len h]
    have h1 : ((n : Int) != (m : Int)) = true := by rw [bne_iff_ne]; omega
    go_enter Try.func20, Try.ntmps20
    go_wp2
    go_ret
    exact ⟨rfl, Fr.refl _ _⟩
end Go.Proofs.Ytkijnpjefccepaa
end

section
namespace Go.Sha
theorem Ow.sl_at {w : World} {base e n c : Nat} {a : Option Addr} {l : Bs} (h : Ow w base e a c l) (hn : l.length = n) : Sl w a n c l := by subst hn; exact h.sl
end Go.Sha
namespace Go.Proofs.Ytkijnpjefccepaa
open Go.ChangeShapes Go.WideShapes Go.ChangeAt Go.RowKit Go.Sha
theorem same_t (a0 b0 : Option Addr) (n m ca cb : Nat) (x y : Bs) (w : World) (hx : Sl w a0 n ca x) (hy : Sl w b0 m cb y) (h : x = y) :
    Calls Try.prog 20 #[.slice a0 n ca, .slice b0 m cb] w (RetB true w) := by
  have := same_any a0 b0 n m ca cb x y w hx hy
  rwa [show (x == y) = true by simpa using h] at this

end Go.Proofs.Ytkijnpjefccepaa
end

section
namespace Go.Sha
open Go.RowKit

/-- the permutation on 200 bytes, by the model's own row for it -/
def kf (a : Bs) : Bs :=
  let lanes := (Array.range 25).map fun i => (List.range 8).foldr (fun j acc => acc * 256 + (a.getD (8 * i + j) 0).toNat) 0
  let out := Extern.Keccak.roundConstants.foldl Extern.Keccak.round lanes
  (List.range 200).map fun k => UInt8.ofNat (out.getD (k / 8) 0 / 256 ^ (k % 8) % 256)
theorem kf_length (a : Bs) : (kf a).length = 200 := by simp [kf]

/-- a sponge: its bytes, its place, its rate, its byte of domain, the length of its output, 0 while it absorbs -/
structure Dg where
  a : Bs
  n : Nat
  rate : Nat
  ds : UInt8
  out : Nat
  st : Nat
def Dg.cells (d : Dg) : List Value := d.a.map bv ++ [.int .i64 d.n, .int .i64 d.rate, .int .u8 d.ds.toNat, .int .i64 d.out, .int .i64 d.st]
/-- the sponge d lies at the head of block b, with 'ext' behind it -/
def DgAt (w : World) (b T : Nat) (ext : List Value) (d : Dg) : Prop := d.a.length = 200 ∧ w.heap[b]? = some (.cells (d.cells ++ ext).toArray T (0, 0))

theorem DgAt.keep {S : List Nat} {w w' : World} {b T : Nat} {ext : List Value} {d : Dg} (h : DgAt w b T ext d) (hf : Fr S w w') (hb : b ∉ S) : DgAt w' b T ext d := ⟨h.1, hf.obj h.2 hb⟩
theorem DgAt.lt {w : World} {b T : Nat} {ext : List Value} {d : Dg} (h : DgAt w b T ext d) : b < w.heap.size := (Array.getElem?_eq_some_iff.1 h.2).1
theorem DgAt.fz {w : World} {b T : Nat} {ext : List Value} {d : Dg} (h : DgAt w b T ext d) (i : Nat) : w.frozen? ⟨b, i, none⟩ = false := by simp [World.frozen?, h.2]
theorem cell_of {w : World} {b T : Nat} {cs : Array Value} {fz : Nat × Nat} (h : w.heap[b]? = some (.cells cs T fz)) (i : Nat) : w.cell? ⟨b, i, none⟩ = cs[i]? := by simp [World.cell?, h]
section
variable {w : World} {b T : Nat} {ext : List Value} {d : Dg}
theorem DgAt.byte (h : DgAt w b T ext d) {i : Nat} (hi : i < 200) : w.cell? ⟨b, i, none⟩ = some (.int .u8 (d.a.getD i 0).toNat) := by
  have h1 := h.1
  rw [cell_of h.2]
  simp [Dg.cells, List.getElem?_append, h1, hi, bv]
theorem tail_at (l m : List Value) (k : Nat) (hl : l.length = 200) : (l ++ m)[200 + k]? = m[k]? := by
  rw [List.getElem?_append_right (by omega)]
  congr 1
  omega
theorem DgAt.cn (h : DgAt w b T ext d) : w.cell? ⟨b, 200, none⟩ = some (.int .i64 d.n) := by
  rw [cell_of h.2]
  simp only [Dg.cells, List.append_assoc, List.getElem?_toArray]
  exact tail_at (d.a.map bv) _ 0 (by simp [h.1])
theorem DgAt.crate (h : DgAt w b T ext d) : w.cell? ⟨b, 201, none⟩ = some (.int .i64 d.rate) := by
  rw [cell_of h.2]
  simp only [Dg.cells, List.append_assoc, List.getElem?_toArray]
  exact tail_at (d.a.map bv) _ 1 (by simp [h.1])
theorem DgAt.cds (h : DgAt w b T ext d) : w.cell? ⟨b, 202, none⟩ = some (.int .u8 d.ds.toNat) := by
  rw [cell_of h.2]
  simp only [Dg.cells, List.append_assoc, List.getElem?_toArray]
  exact tail_at (d.a.map bv) _ 2 (by simp [h.1])
theorem DgAt.cout (h : DgAt w b T ext d) : w.cell? ⟨b, 203, none⟩ = some (.int .i64 d.out) := by
  rw [cell_of h.2]
  simp only [Dg.cells, List.append_assoc, List.getElem?_toArray]
  exact tail_at (d.a.map bv) _ 3 (by simp [h.1])
theorem DgAt.cst (h : DgAt w b T ext d) : w.cell? ⟨b, 204, none⟩ = some (.int .i64 d.st) := by
  rw [cell_of h.2]
  simp only [Dg.cells, List.append_assoc, List.getElem?_toArray]
  exact tail_at (d.a.map bv) _ 4 (by simp [h.1])
theorem DgAt.cext (h : DgAt w b T ext d) {v : Value} (hv : ext = [v]) : w.cell? ⟨b, 205, none⟩ = some v := by
  subst hv
  rw [cell_of h.2]
  simp only [Dg.cells, List.append_assoc, List.getElem?_toArray]
  exact tail_at (d.a.map bv) _ 5 (by simp [h.1])
theorem set_tail (l m : List Value) (k : Nat) (v : Value) (hl : l.length = 200) : (l ++ m).set (200 + k) v = l ++ m.set k v := by
  rw [List.set_append_right _ _ (by omega)]
  congr 2
  omega
theorem DgAt.setN (h : DgAt w b T ext d) (m : Nat) : DgAt (w.setCell ⟨b, 200, none⟩ (.int .i64 m)) b T ext { d with n := m } := by
  refine ⟨h.1, ?_⟩
  rw [heap_setCell_same h.2]
  simp only [Dg.cells, List.append_assoc, List.setIfInBounds_toArray]
  rw [set_tail (d.a.map bv) _ 0 _ (by simp [h.1])]
  rfl
theorem DgAt.setSt (h : DgAt w b T ext d) (m : Nat) : DgAt (w.setCell ⟨b, 204, none⟩ (.int .i64 m)) b T ext { d with st := m } := by
  refine ⟨h.1, ?_⟩
  rw [heap_setCell_same h.2]
  simp only [Dg.cells, List.append_assoc, List.setIfInBounds_toArray]
  rw [set_tail (d.a.map bv) _ 4 _ (by simp [h.1])]
  rfl
theorem DgAt.setA (h : DgAt w b T ext d) {i : Nat} (hi : i < 200) (x : UInt8) : DgAt (w.setCell ⟨b, i, none⟩ (.int .u8 x.toNat)) b T ext { d with a := d.a.set i x } := by
  refine ⟨by simp [h.1], ?_⟩
  rw [heap_setCell_same h.2]
  simp only [Dg.cells, List.append_assoc, List.setIfInBounds_toArray]
  rw [List.set_append_left _ _ (by simp [h.1, hi])]
  simp [List.map_set, bv]
/-- all bytes written anew -/
theorem DgAt.setRow (h : DgAt w b T ext d) (a' : Bs) (ha : a'.length = 200) :
    DgAt (w.setRow b ((d.cells ++ ext).toArray.toList.take (0 + 0) ++ a'.map bv ++ (d.cells ++ ext).toArray.toList.drop (0 + 0 + (a'.map bv).length)).toArray) b T ext { d with a := a' } := by
  refine ⟨ha, ?_⟩
  rw [setRow_heap _ _ _ _ _ _ h.2]
  simp only [Dg.cells, List.append_assoc, Nat.zero_add, List.take_zero, List.nil_append, List.length_map, ha]
  rw [List.drop_left' (by simp [h.1])]
end
theorem Fr.setRow {S : List Nat} {a w : World} (h : Fr S a w) (g : Nat) (cs : Array Value) (hp : a.heap.size ≤ g ∨ g ∈ S) : Fr S a (w.setRow g cs) := by
  refine ⟨h.os, h.tape, h.output, by simpa [World.setRow] using h.size, fun k hk hs => ?_⟩
  rw [setRow_other _ _ _ _ (by rintro rfl; rcases hp with hp | hp; omega; exact hs hp)]
  exact h.block k hk hs

/-! ### The model's row for the permutation -/
theorem run_mapM_list {α β : Type} {P : Program} (f : α → Sem β) (g : α → β) (w : World) : ∀ (l : List α), (∀ x ∈ l, (f x).run P w = .ok (g x) w) → (l.mapM f).run P w = .ok (l.map g) w
  | [], _ => rfl
  | x :: l, h => by
    rw [List.mapM_cons]
    simp only [Sem.run_bind, h x (by simp), Result.andThen_ok, run_mapM_list f g w l (fun y hy => h y (by simp [hy])), Sem.run_pure, List.map_cons]
theorem run_mapM_arr {α β : Type} {P : Program} (f : α → Sem β) (g : α → β) (w : World) (l : List α) (h : ∀ x ∈ l, (f x).run P w = .ok (g x) w) : (l.toArray.mapM f).run P w = .ok (l.map g).toArray w := by
  rw [List.mapM_toArray]
  show Sem.run P (List.toArray <$> l.mapM f) w = _
  rw [map_eq_pure_bind]
  simp only [Sem.run_bind, run_mapM_list f g w l h, Result.andThen_ok, Sem.run_pure]

def keccakOut (bytes : Array Nat) : List Value :=
  let lanes := (Array.range 25).map fun i => (List.range 8).foldr (fun j acc => acc * 256 + bytes.getD (8 * i + j) 0) 0
  let out := Extern.Keccak.roundConstants.foldl Extern.Keccak.round lanes
  (List.range 200).map fun k => .int .u8 (Int.ofNat (out.getD (k / 8) 0 / 256 ^ (k % 8) % 256))
def keccakBody (p : Value) : Sem Value := do
  let a ← asAddr p
  let bytes ← (← loadCells a 200).mapM fun c => do pure (← asInt c).toNat
  storeCells a (keccakOut bytes)
  pure (.tuple #[])
theorem keccak_eq (p : Value) : Extern.Keccak.keccakF1600 #[p] = keccakBody p := by kernel_rfl

theorem bytes_one (l : Bs) : ∀ v ∈ l.map bv, v.oneCell' = true := fun u hu => by
  obtain ⟨_, _, rfl⟩ := List.mem_map.1 hu
  rfl
theorem run_keccak {P : Program} {w : World} {b T : Nat} {ext : List Value} {d : Dg} (h : DgAt w b T ext d) :
    ∃ w', (Extern.Keccak.keccakF1600 #[.pointer (some ⟨b, 0, none⟩)]).run P w = .ok (.tuple #[]) w' ∧ DgAt w' b T ext { d with a := kf d.a } ∧ Fr [b] w w' := by
  have hld : (loadCells ⟨b, 0, none⟩ 200).run P w = .ok (d.a.map bv).toArray w := by
    have := run_loadCells_list (P := P) w ⟨b, 0, none⟩ (d.a.map bv) (fun j v hv => by
      have hj : j < 200 := by
        have := (List.getElem?_eq_some_iff.1 hv).1
        simpa [h.1] using this
      have hadd : (⟨b, 0, none⟩ : Addr).add j = ⟨b, j, none⟩ := by unfold Addr.add; split <;> simp_all
      rw [hadd, h.byte hj, ← hv]
      simp [bv, List.getElem?_eq_getElem (show j < d.a.length by rw [h.1]; exact hj)])
    rwa [show (d.a.map bv).length = 200 by simp [h.1]] at this
  have hmp := run_mapM_arr (P := P) (fun c => do pure (← asInt c).toNat) (fun v => match v with | .int _ n => n.toNat | _ => 0) w (d.a.map bv) (fun x hx => by
    obtain ⟨y, _, rfl⟩ := List.mem_map.1 hx
    rfl)
  have hst := run_storeCells_at P b 0 T ((kf d.a).map bv) 0 _ w h.2 (by simp [Dg.cells, h.1, kf_length]) (bytes_one _)
  refine ⟨_, ?_, h.setRow (kf d.a) (kf_length _), (Fr.refl _ _).setRow _ _ (.inr (by simp))⟩
  rw [keccak_eq]
  unfold keccakBody
  simp only [asAddr, Sem.run_bind, Sem.run_pure, Result.andThen_ok, hld]
  rw [hmp]
  simp only [Result.andThen_ok]
  have e : keccakOut ((d.a.map bv).map fun v => match v with | .int _ n => n.toNat | _ => 0).toArray = (kf d.a).map bv := by
    unfold kf keccakOut
    simp only [List.map_map]
    have hb : ∀ j, ((d.a.map bv).map fun v => match v with | .int _ n => n.toNat | _ => 0).toArray.getD j 0 = (d.a.getD j 0).toNat := fun j => by
      simp only [Array.getD_eq_getD_getElem?, List.getElem?_toArray, List.getD_eq_getElem?_getD, List.getElem?_map]
      cases hj : d.a[j]? <;> simp [bv]
    simp only [List.map_map] at hb
    simp only [hb]
    apply List.map_congr_left
    intro k _
    simp only [Function.comp, bv]
    rw [UInt8.toNat_ofNat', Nat.mod_mod_of_dvd _ (by decide)]
    rfl
  rw [e, hst]
  simp only [Result.andThen_ok]
end Go.Sha
end
