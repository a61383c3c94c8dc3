/- Two addresses in two blocks are not one; slices in two blocks do not overlap: the model's rows. No condition. -/
import Derived.Test.YtjgdbamlaajkmaaPerm
import Derived.LaidEqlPtr
namespace Go.Sha
open Go.RowKit
section
variable {P : Program} {w : World}
theorem run_mayBeOne_ne {a b : Addr} {ca cb : Array Value} {ta tb : TypeId} {fz : Nat × Nat} (ha : w.heap[a.block]? = some (.cells ca ta (0, 0))) (hb : w.heap[b.block]? = some (.cells cb tb fz)) (hcb : cb.size ≠ 0) :
    (mayBeOne a b).run P w = .ok false w := by
  obtain ⟨lo, hi⟩ := fz
  cases h1 : (decide (lo ≤ b.off) && decide (b.off < hi)) <;> cases h2 : (decide (lo ≤ cb.size) && decide (cb.size < hi)) <;>
    simp [World.frozen?, ha, hb, World.shape?, mayBeOne, stringish, h1, h2, hcb]
theorem run_sameAddr_ne {a b : Addr} {ca cb : Array Value} {ta tb : TypeId} {fz : Nat × Nat} (hne : a.block ≠ b.block) (ha : w.heap[a.block]? = some (.cells ca ta (0, 0))) (hb : w.heap[b.block]? = some (.cells cb tb fz)) (hcb : cb.size ≠ 0) :
    (sameAddr a b).run P w = .ok false w := by
  simp [sameAddr, hne, World.frozen?, ha, hb, noView, viewAt, World.shape?, run_mayBeOne_ne (P := P) ha hb hcb]
theorem run_eql_ptr_ne {tp te : TypeId} {j : TypeInfo} {a b : Addr} {ca cb : Array Value} {ta tb : TypeId} {fz : Nat × Nat} (hp : P.underlying tp = some (.pointer te)) (hte : P.info? te = some j) (hsz : j.size ≠ 0)
    (hne : a.block ≠ b.block) (ha : w.heap[a.block]? = some (.cells ca ta (0, 0))) (hb : w.heap[b.block]? = some (.cells cb tb fz)) (hcb : cb.size ≠ 0) :
    (binOp .eql tp (.pointer (some a)) (.pointer (some b))).run P w = .ok (.bool false) w := by
  have h : ∀ d : Nat, (Op.equalIn (d + 1) tp (.pointer (some a)) (.pointer (some b))).run P w = .ok false w := fun d => by
    simp [Op.equalIn, run_underlying hp, sizeOf, typeInfo, hte, hsz, run_sameAddr_ne (P := P) hne ha hb hcb]
  simp only [binOp]
  simp [Op.equal, Op.maxDepth, h 9999]
def ovTail (a b : Addr) (la lb size : Nat) : Sem Value :=
  if la = 0 ∨ lb = 0 ∨ size = 0 then pure (.bool false)
  else do
    if a.block != b.block && (← frozen a) && (← frozen b) then unsupported .addressObserved
    else do
      if a.block != b.block then do
        noView a; noView b
        if ← mayBeOne a b then return .bool ((← choose (.extern "sameAddr.stringBytes" 2)) == 1)
      pure (.bool (a.block == b.block && a.off < b.off + lb * size && b.off < a.off + la * size))
theorem run_ovTail_ne {a b : Addr} {ca cb : Array Value} {ta tb : TypeId} {fz : Nat × Nat} {la lb size : Nat}
    (hne : a.block ≠ b.block) (ha : w.heap[a.block]? = some (.cells ca ta (0, 0))) (hb : w.heap[b.block]? = some (.cells cb tb fz)) (hcb : cb.size ≠ 0) :
    (ovTail a b la lb size).run P w = .ok (.bool false) w := by
  unfold ovTail
  by_cases h : la = 0 ∨ lb = 0 ∨ size = 0
  · rw [if_pos h]; rfl
  · rw [if_neg h]
    simp [hne, World.frozen?, ha, hb, noView, viewAt, World.shape?, run_mayBeOne_ne (P := P) ha hb hcb]
end
/-- a call of a function without a body, by what its row does at these arguments in this world -/
theorem run_callFunc_match {P : Program} {f : FuncId} {fn : Func} {w : World} {args : Array Value} {r d : Result Value} (hf : P.funcs[f]? = some fn) (hname : (fn.name == "runtime.NumGoroutine") = false)
    (hb : fn.body.isNone = true) (hn : (Extern.findNext fn).isNone = true) (hs : (Extern.find fn).isSome = true) (he : (match Extern.find fn with | some e => (e args).run P w | none => d) = r) :
    (callFunc f args).run P w = r.andThen fun v w' => .ok (.value v) w' := by
  cases h : Extern.find fn with
  | none => rw [h] at hs; cases hs
  | some e =>
    rw [h] at he
    subst he
    exact run_callFunc_extern hf hname hb (by simpa using hn) h args w

/-- bytes laid over others, one by one, from a place on -/
def xorAt (a : Bs) (i : Nat) (p : Bs) : Bs := a.take i ++ List.zipWith (· ^^^ ·) (a.drop i) p ++ a.drop (i + p.length)
theorem xorAt_length (a : Bs) (i : Nat) (p : Bs) (h : i + p.length ≤ a.length) : (xorAt a i p).length = a.length := by
  simp [xorAt]; omega
def xorPair (q : Value × Value) : Sem Value := do pure (Value.int .u8 (Int.ofNat ((← asInt q.1).toNat ^^^ (← asInt q.2).toNat)))
def xorBody (dst a b n : Value) : Sem Value := do
  let n := (← asInt n).toNat
  let xs ← loadCells (← asAddr a) n
  let ys ← loadCells (← asAddr b) n
  let out ← (xs.zip ys).mapM xorPair
  storeCells (← asAddr dst) out.toList
  pure (.tuple #[])
theorem xor_eq (dst a b n : Value) : Extern.CryptoHooks.xorBytes #[dst, a, b, n] = xorBody dst a b n := by kernel_rfl

theorem run_loadBytes {P : Program} {w : World} {b o n : Nat} {l : Bs} (hl : l.length = n) (h : ∀ i, i < n → w.cell? ⟨b, o + i, none⟩ = some (.int .u8 (l.getD i 0).toNat)) :
    (loadCells ⟨b, o, none⟩ n).run P w = .ok (l.map bv).toArray w := by
  have := run_loadCells_list (P := P) w ⟨b, o, none⟩ (l.map bv) (fun j v hv => by
    have hj : j < n := by
      have := (List.getElem?_eq_some_iff.1 hv).1
      simpa [hl] using this
    have hadd : (⟨b, o, none⟩ : Addr).add j = ⟨b, o + j, none⟩ := by unfold Addr.add; split <;> simp_all
    rw [hadd, h j hj, ← hv]
    simp [bv, List.getElem?_eq_getElem (show j < l.length by rw [hl]; exact hj)])
  rwa [show (l.map bv).length = n by simp [hl]] at this

theorem zip_xor (x y : Bs) : ((List.zip (x.map bv) (y.map bv)).map fun p => match p with | (.int _ a, .int _ b) => Value.int .u8 (Int.ofNat (a.toNat ^^^ b.toNat)) | _ => undef) = (List.zipWith (· ^^^ ·) x y).map bv := by
  induction x generalizing y with
  | nil => rfl
  | cons a x ih =>
    cases y with
    | nil => rfl
    | cons b y =>
      simp only [List.map_cons, List.zip_cons_cons, List.zipWith_cons_cons, ih]
      simp [bv]

theorem run_xorBytes {P : Program} {w : World} {b T : Nat} {ext : List Value} {d : Dg} (h : DgAt w b T ext d) {o k b' o' : Nat} {p : Bs} (hk : p.length = k) (hok : o + k ≤ 200)
    (hp : ∀ i, i < k → w.cell? ⟨b', o' + i, none⟩ = some (.int .u8 (p.getD i 0).toNat)) :
    ∃ w', (Extern.CryptoHooks.xorBytes #[.pointer (some ⟨b, o, none⟩), .pointer (some ⟨b, o, none⟩), .pointer (some ⟨b', o', none⟩), .int .i64 (k : Int)]).run P w = .ok (.tuple #[]) w' ∧
      DgAt w' b T ext { d with a := xorAt d.a o p } ∧ Fr [b] w w' := by
  have h1 := h.1
  have hl1 : ((d.a.drop o).take k).length = k := by simp [h1]; omega
  have hx : (loadCells ⟨b, o, none⟩ k).run P w = .ok (((d.a.drop o).take k).map bv).toArray w := run_loadBytes hl1 (fun i hi => by
    rw [h.byte (show o + i < 200 by omega)]
    simp [List.getD_eq_getElem?_getD, List.getElem?_take_of_lt hi])
  have hy : (loadCells ⟨b', o', none⟩ k).run P w = .ok (p.map bv).toArray w := run_loadBytes hk hp
  have hm := run_mapM_arr (P := P) xorPair
    (fun q => match q with | (.int _ a, .int _ b) => Value.int .u8 (Int.ofNat (a.toNat ^^^ b.toNat)) | _ => undef) w (List.zip (((d.a.drop o).take k).map bv) (p.map bv)) (fun x hx => by
      obtain ⟨x1, x2⟩ := x
      have h1 := List.of_mem_zip hx
      obtain ⟨y1, _, rfl⟩ := List.mem_map.1 h1.1
      obtain ⟨y2, _, rfl⟩ := List.mem_map.1 h1.2
      rfl)
  rw [zip_xor] at hm
  have hz : List.zipWith (· ^^^ ·) ((d.a.drop o).take k) p = List.zipWith (· ^^^ ·) (d.a.drop o) p := by
    conv => rhs; rw [← List.take_append_drop k (d.a.drop o)]
    rw [← List.append_nil p, List.zipWith_append (by simp [hk, h1]; omega)]
    simp
  have hzl : (List.zipWith (· ^^^ ·) (d.a.drop o) p).length = k := by simp [h1, hk]; omega
  rw [hz] at hm
  have hst := run_storeCells_at P b o T ((List.zipWith (· ^^^ ·) (d.a.drop o) p).map bv) 0 _ w h.2 (by simp [Dg.cells, h1, hk]; omega) (bytes_one _)
  refine ⟨_, ?_, ⟨by rw [xorAt_length _ _ _ (by omega)]; exact h1, setRow_heap _ _ _ ((({ d with a := xorAt d.a o p } : Dg).cells ++ ext).toArray) _ _ h.2⟩, (Fr.refl _ _).setRow _ _ (.inr (by simp))⟩
  rw [xor_eq]
  unfold xorBody
  simp only [asInt, asIntOf, asAddr, Sem.run_bind, Sem.run_pure, Result.andThen_ok, Int.toNat_natCast, hx, hy, List.zip_toArray]
  rw [hm]
  simp only [Result.andThen_ok, List.toList_toArray]
  rw [hst]
  simp only [Result.andThen_ok, Nat.add_zero]
  congr 3
  simp only [Dg.cells, xorAt, List.length_map, hzl, List.append_assoc, hk, List.map_append, List.map_take, List.map_drop]
  rw [List.take_append_of_le_length (by simp [h1]; omega), List.drop_append_of_le_length (by simp [h1]; omega)]
end Go.Sha
namespace Go.Proofs.Ytjgdbamlaajkmaa
open Go.ChangeShapes Go.WideShapes Go.ChangeAt Go.RowKit Go.Sha
theorem anyOverlap_run (b o b' o' la xa lb xb : Nat) (w : World) :
    (match Extern.find Try.f90 with | some e => (e #[.slice (some ⟨b, o, none⟩) la xa, .slice (some ⟨b', o', none⟩) lb xb]).run Try.prog w | none => .ok (.bool true) w) = (ovTail ⟨b, o, none⟩ ⟨b', o', none⟩ la lb 1).run Try.prog w := by
  kernel_rfl
end Go.Proofs.Ytjgdbamlaajkmaa
