/- What the proofs of this seat share: slices of bytes that read as lists, what a call leaves alone, what it hands back. No condition. -/
import Derived.Test.YtjgdbamlaajkmaaRows
import Derived.WalkKit
import Derived.WalkLawsBesides
import Derived.ProofKit
import Derived.OpenShut
import Derived.BigQuiet
import Derived.Deep.QuietTactic
import Derived.Lib.Hide
import Derived.Outline
import Derived.Laws.Externs
namespace Go.Sha
open Go.RowKit

abbrev Bs := List UInt8
/-- a byte as a cell's value -/
def bv (x : UInt8) : Value := .int .u8 x.toNat

/-- the slice (a, n, c) reads as the bytes l -/
structure Sl (w : World) (a : Option Addr) (n c : Nat) (l : Bs) : Prop where
  len : l.length = n
  cap : n ≤ c
  max : c ≤ maxLen
  cel : n = 0 ∨ ∃ b o, a = some ⟨b, o, none⟩ ∧ ∀ i, i < n → w.cell? ⟨b, o + i, none⟩ = some (.int .u8 (l.getD i 0).toNat)

/-- nothing that was there has turned, but in the blocks of S; blocks may have come -/
structure Fr (S : List Nat) (w w' : World) : Prop where
  os : w'.os = w.os
  tape : w'.tape = w.tape
  output : w'.output = w.output
  size : w.heap.size ≤ w'.heap.size
  block : ∀ k, k < w.heap.size → k ∉ S → w'.heap[k]? = w.heap[k]?

theorem Fr.refl (S : List Nat) (w : World) : Fr S w w := ⟨rfl, rfl, rfl, Nat.le_refl _, fun _ _ _ => rfl⟩
theorem Fr.trans {S : List Nat} {a b c : World} (h : Fr S a b) (k : Fr S b c) : Fr S a c :=
  ⟨k.os.trans h.os, k.tape.trans h.tape, k.output.trans h.output, Nat.le_trans h.size k.size,
   fun i hi hs => (k.block i (Nat.lt_of_lt_of_le hi h.size) hs).trans (h.block i hi hs)⟩
theorem Fr.mono {S T : List Nat} {a b : World} (h : Fr S a b) (hs : ∀ k, k < a.heap.size → k ∈ S → k ∈ T) : Fr T a b :=
  ⟨h.os, h.tape, h.output, h.size, fun i hi ht => h.block i hi fun x => ht (hs i hi x)⟩
theorem Fr.drew {S : List Nat} {a w : World} (h : Fr S a w) : Fr S a w.drew := ⟨h.os, h.tape, h.output, h.size, h.block⟩
theorem Fr.drewN {S : List Nat} {a w : World} (h : Fr S a w) (n : Nat) : Fr S a (w.drewN n) := ⟨h.os, h.tape, h.output, h.size, h.block⟩
theorem Fr.alloc {S : List Nat} {a w : World} (h : Fr S a w) (o : Obj) : Fr S a (w.alloc o) :=
  h.trans ⟨rfl, rfl, rfl, by simp, fun k hk _ => Below.heap_alloc _ _ _ hk⟩
theorem Fr.setCell {S : List Nat} {a w : World} (h : Fr S a w) (p : Addr) (u : Value) (hp : a.heap.size ≤ p.block ∨ p.block ∈ S) : Fr S a (w.setCell p u) := by
  refine ⟨h.os, h.tape, h.output, by simpa [World.setCell] using h.size, fun k hk hs => ?_⟩
  rw [Below.heap_setCell _ _ _ _ (by rintro rfl; rcases hp with hp | hp; omega; exact hs hp)]
  exact h.block k hk hs
theorem Fr.below {w w' : World} (h : Fr [] w w') : Below w.heap.size w w' := ⟨h.os, h.tape, h.output, h.size, fun k hk => h.block k hk (by simp)⟩
theorem Fr.of_below {w w' : World} (h : Below w.heap.size w w') : Fr [] w w' := ⟨h.os, h.tape, h.output, h.size, fun k hk _ => h.block k hk⟩
/-- behind an append or a make: the row that may have been written came since, or is one of S -/
theorem Fr.grown {S : List Nat} {a w w' : World} {row : Option Nat} (h : Fr S a w) (hg : w.grownBy w' row) (hr : ∀ k, row = some k → a.heap.size ≤ k ∨ k ∈ S) : Fr S a w' := by
  refine ⟨hg.os.trans h.os, hg.tape.trans h.tape, hg.output.trans h.output, Nat.le_trans h.size hg.size, fun k hk hs => ?_⟩
  rw [hg.block k (Nat.lt_of_lt_of_le hk h.size) (fun e => by rcases hr k e.symm with hr | hr; omega; exact hs hr)]
  exact h.block k hk hs
theorem Fr.cell {S : List Nat} {w w' : World} (h : Fr S w w') {p : Addr} {v : Value} (hc : w.cell? p = some v) (hs : p.block ∉ S) : w'.cell? p = some v :=
  (World.cell?_of_block (w := w) (h.block p.block (World.block_lt_of_cell? w p hc) hs)).trans hc
theorem Fr.obj {S : List Nat} {w w' : World} (h : Fr S w w') {b : Nat} {o : Obj} (hc : w.heap[b]? = some o) (hs : b ∉ S) : w'.heap[b]? = some o := by
  rw [h.block b (Array.getElem?_eq_some_iff.1 hc).1 hs]; exact hc

theorem Sl.keep {S : List Nat} {w w' : World} {a : Option Addr} {n c : Nat} {l : Bs} (h : Sl w a n c l) (hf : Fr S w w') (hs : ∀ x, a = some x → n ≠ 0 → x.block ∉ S) : Sl w' a n c l := by
  refine ⟨h.len, h.cap, h.max, ?_⟩
  rcases h.cel with h0 | ⟨b, o, rfl, hc⟩
  · exact .inl h0
  · by_cases hn : n = 0
    · exact .inl hn
    · exact .inr ⟨b, o, rfl, fun i hi => hf.cell (hc i hi) (show b ∉ S from hs _ rfl hn)⟩
theorem Sl.keep0 {w w' : World} {a : Option Addr} {n c : Nat} {l : Bs} (h : Sl w a n c l) (hf : Fr [] w w') : Sl w' a n c l := h.keep hf (by simp)

/-- the slice owns its block, which came at base or behind it, and reads as l -/
def Ow (w : World) (base e : Nat) (a : Option Addr) (c : Nat) (l : Bs) : Prop := w.ownsRow base e 1 (.slice a l.length c) l.length (l.map bv)

theorem Ow.sl {w : World} {base e : Nat} {a : Option Addr} {c : Nat} {l : Bs} (h : Ow w base e a c l) : Sl w a l.length c l := by
  obtain ⟨_, h2⟩ := h
  rcases h2 with ⟨h3, h0⟩ | ⟨g, cap, cur, hv, hb, hg, hn, hm, hs, ht⟩
  · simp only [Value.slice.injEq] at h3
    obtain ⟨rfl, h3, rfl⟩ := h3
    exact ⟨rfl, by omega, by simp [maxLen], .inl h0⟩
  · simp only [Value.slice.injEq] at hv
    obtain ⟨rfl, _, rfl⟩ := hv
    refine ⟨rfl, hn, hm, .inr ⟨g, 0, rfl, fun i hi => ?_⟩⟩
    have h4 : (cur.toList.take (l.length * 1))[i]? = (l.map bv)[i]? := by rw [ht]
    rw [List.getElem?_take_of_lt (by omega)] at h4
    simp only [World.cell?, hg]
    simp only [Array.getElem?_toList, List.getElem?_map, List.getElem?_eq_getElem hi, Option.map_some, Nat.zero_add] at h4 ⊢
    rw [h4]
    simp [bv, List.getD_eq_getElem?_getD, List.getElem?_eq_getElem hi]

/-- a bool is handed back, and nothing that was there has turned -/
def RetB (b : Bool) (w : World) (e : Ending) (w' : World) : Prop := e = .returned (.bool b) ∧ Fr [] w w'
def RetI (n : Int) (w : World) (e : Ending) (w' : World) : Prop := e = .returned (.int .i64 n) ∧ Fr [] w w'
/-- a slice of its own is handed back that reads as l -/
def RetO (t : Nat) (l : Bs) (w : World) (e : Ending) (w' : World) : Prop := ∃ a c, e = .returned (.slice a l.length c) ∧ Ow w' w.heap.size t a c l ∧ Fr [] w w'

theorem wrap_u8 (n : Nat) (h : n < 256) : IntKind.u8.wrap (n : Int) = n := by
  simp [IntKind.wrap, IntKind.bits, IntKind.signed]; omega
theorem ofInt_u8 (x : UInt8) : BitVec.ofInt 8 (x.toNat : Int) = x.toBitVec := by
  apply BitVec.eq_of_toNat_eq
  simp
theorem bits_or (x y : UInt8) : bits BinOp.or IntKind.u8 (x.toNat : Int) (y.toNat : Int) = ((x ||| y).toNat : Int) := by
  show IntKind.u8.wrap ((BitVec.ofInt 8 (x.toNat : Int) ||| BitVec.ofInt 8 (y.toNat : Int)).toNat : Int) = _
  rw [ofInt_u8, ofInt_u8]
  exact wrap_u8 (x ||| y).toNat (x ||| y).toNat_lt
theorem bits_xor (x y : UInt8) : bits BinOp.xor IntKind.u8 (x.toNat : Int) (y.toNat : Int) = ((x ^^^ y).toNat : Int) := by
  show IntKind.u8.wrap ((BitVec.ofInt 8 (x.toNat : Int) ^^^ BitVec.ofInt 8 (y.toNat : Int)).toNat : Int) = _
  rw [ofInt_u8, ofInt_u8]
  exact wrap_u8 (x ^^^ y).toNat (x ^^^ y).toNat_lt

/-- a bool as a number -/
def b2i (b : Bool) : Int := if b then 1 else 0
theorem getD_at (l : Bs) (k : Nat) (h : k < l.length) : l.getD k 0 = l[k] := by simp [List.getD_eq_getElem?_getD, List.getElem?_eq_getElem h]
theorem getD_opt (l : Bs) (k : Nat) : l[k]?.getD 0 = l.getD k 0 := by simp [List.getD_eq_getElem?_getD]
theorem ret_int {k : IntKind} {a b : Int} (h : a = b) : Ending.returned (.int k a) = .returned (.int k b) := by rw [h]

/-- a call of a function without a body: the model's own row for it -/
theorem run_callFunc_ext {P : Program} {f : FuncId} {fn : Func} (hf : P.funcs[f]? = some fn) (args : Array Value) (s : Sem Value) (hname : (fn.name == "runtime.NumGoroutine") = false)
    (hb : fn.body.isNone = true) (hn : (Extern.findNext fn).isNone = true) (he : (Extern.find fn).map (fun e => e args) = some s) (w : World) :
    (callFunc f args).run P w = (s.run P w).andThen fun v w' => .ok (.value v) w' := by
  cases h : Extern.find fn with
  | none => rw [h] at he; cases he
  | some e =>
    rw [h] at he
    simp only [Option.map_some, Option.some.injEq] at he
    subst he
    exact run_callFunc_extern hf hname hb (by simpa using hn) h args w
end Go.Sha
