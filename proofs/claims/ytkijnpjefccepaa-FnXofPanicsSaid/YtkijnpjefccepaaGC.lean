/- Contracts and lemmas, merged: Xor, Xorb, Abs, Write, Read, New, SumS. Their conditions stand in each. -/
import Derived.Test.YtkijnpjefccepaaGA
import Derived.Test.YtkijnpjefccepaaGB
import Derived.LaidEqlPtr
import Derived.LoopTactic
section
namespace Go.Sha
open Go.RowKit
section
variable {P : Program} {w : World}
theorem run_mayBeOne_ne {a b : Addr} {ca cb : Array Value} {ta tb : TypeId} {fz : Nat × Nat} (ha : w.heap[a.block]? = some (.cells ca ta (0, 0))) (hb : w.heap[b.block]? = some (.cells cb tb fz)) (hcb : cb.size ≠ 0) :
    (mayBeOne a b).run P w = .ok false w := by
  obtain ⟨lo, hi⟩ := fz
  cases h1 : (decide (lo ≤ b.off) && decide (b.off < hi)) <;> cases h2 : (decide (lo ≤ cb.size) && decide (cb.size < hi)) <;>
    simp [World.frozen?, ha, hb, World.shape?, mayBeOne, stringish, h1, h2, hcb]
theorem run_sameAddr_ne {a b : Addr} {ca cb : Array Value} {ta tb : TypeId} {fz : Nat × Nat} (hne : a.block ≠ b.block) (ha : w.heap[a.block]? = some (.cells ca ta (0, 0))) (hb : w.heap[b.block]? = some (.cells cb tb fz)) (hcb : cb.size ≠ 0) :
    (sameAddr a b).run P w = .ok false w := by
  simp [sameAddr, hne, World.frozen?, ha, hb, noView, viewAt, World.shape?, run_mayBeOne_ne (P := P) ha hb hcb]
theorem run_eql_ptr_ne {tp te : TypeId} {j : TypeInfo} {a b : Addr} {ca cb : Array Value} {ta tb : TypeId} {fz : Nat × Nat} (hp : P.underlying tp = some (.pointer te)) (hte : P.info? te = some j) (hsz : j.size ≠ 0)
    (hne : a.block ≠ b.block) (ha : w.heap[a.block]? = some (.cells ca ta (0, 0))) (hb : w.heap[b.block]? = some (.cells cb tb fz)) (hcb : cb.size ≠ 0) :
    (binOp .eql tp (.pointer (some a)) (.pointer (some b))).run P w = .ok (.bool false) w := by
  have h : ∀ d : Nat, (Op.equalIn (d + 1) tp (.pointer (some a)) (.pointer (some b))).run P w = .ok false w := fun d => by
    simp [Op.equalIn, run_underlying hp, sizeOf, typeInfo, hte, hsz, run_sameAddr_ne (P := P) hne ha hb hcb]
  simp only [binOp]
  simp [Op.equal, Op.maxDepth, h 9999]
def ovTail (a b : Addr) (la lb size : Nat) : Sem Value :=
  if la = 0 ∨ lb = 0 ∨ size = 0 then pure (.bool false)
  else do
    if a.block != b.block && (← frozen a) && (← frozen b) then unsupported .addressObserved
    else do
      if a.block != b.block then do
        noView a; noView b
        if ← mayBeOne a b then return .bool ((← choose (.extern "sameAddr.stringBytes" 2)) == 1)
      pure (.bool (a.block == b.block && a.off < b.off + lb * size && b.off < a.off + la * size))
theorem run_ovTail_ne {a b : Addr} {ca cb : Array Value} {ta tb : TypeId} {fz : Nat × Nat} {la lb size : Nat}
    (hne : a.block ≠ b.block) (ha : w.heap[a.block]? = some (.cells ca ta (0, 0))) (hb : w.heap[b.block]? = some (.cells cb tb fz)) (hcb : cb.size ≠ 0) :
    (ovTail a b la lb size).run P w = .ok (.bool false) w := by
  unfold ovTail
  by_cases h : la = 0 ∨ lb = 0 ∨ size = 0
  · rw [if_pos h]; rfl
  · rw [if_neg h]
    simp [hne, World.frozen?, ha, hb, noView, viewAt, World.shape?, run_mayBeOne_ne (P := P) ha hb hcb]
end
/-- a call of a function without a body, by what its row does at these arguments in this world -/
theorem run_callFunc_match {P : Program} {f : FuncId} {fn : Func} {w : World} {args : Array Value} {r d : Result Value} (hf : P.funcs[f]? = some fn) (hname : (fn.name == "runtime.NumGoroutine") = false)
    (hb : fn.body.isNone = true) (hn : (Extern.findNext fn).isNone = true) (hs : (Extern.find fn).isSome = true) (he : (match Extern.find fn with | some e => (e args).run P w | none => d) = r) :
    (callFunc f args).run P w = r.andThen fun v w' => .ok (.value v) w' := by
  cases h : Extern.find fn with
  | none => rw [h] at hs; cases hs
  | some e =>
    rw [h] at he
    subst he
    exact run_callFunc_extern hf hname hb (by simpa using hn) h args w

/-- bytes laid over others, one by one, from a place on -/
def xorAt (a : Bs) (i : Nat) (p : Bs) : Bs := a.take i ++ List.zipWith (· ^^^ ·) (a.drop i) p ++ a.drop (i + p.length)
theorem xorAt_length (a : Bs) (i : Nat) (p : Bs) (h : i + p.length ≤ a.length) : (xorAt a i p).length = a.length := by
  simp [xorAt]; omega
def xorPair (q : Value × Value) : Sem Value := do pure (Value.int .u8 (Int.ofNat ((← asInt q.1).toNat ^^^ (← asInt q.2).toNat)))
def xorBody (dst a b n : Value) : Sem Value := do
  let n := (← asInt n).toNat
  let xs ← loadCells (← asAddr a) n
  let ys ← loadCells (← asAddr b) n
  let out ← (xs.zip ys).mapM xorPair
  storeCells (← asAddr dst) out.toList
  pure (.tuple #[])
theorem xor_eq (dst a b n : Value) : Extern.CryptoHooks.xorBytes #[dst, a, b, n] = xorBody dst a b n := by kernel_rfl

theorem run_loadBytes {P : Program} {w : World} {b o n : Nat} {l : Bs} (hl : l.length = n) (h : ∀ i, i < n → w.cell? ⟨b, o + i, none⟩ = some (.int .u8 (l.getD i 0).toNat)) :
    (loadCells ⟨b, o, none⟩ n).run P w = .ok (l.map bv).toArray w := by
  have := run_loadCells_list (P := P) w ⟨b, o, none⟩ (l.map bv) (fun j v hv => by
    have hj : j < n := by
      have := (List.getElem?_eq_some_iff.1 hv).1
      simpa [hl] using this
    have hadd : (⟨b, o, none⟩ : Addr).add j = ⟨b, o + j, none⟩ := by unfold Addr.add; split <;> simp_all
    rw [hadd, h j hj, ← hv]
    simp [bv, List.getElem?_eq_getElem (show j < l.length by rw [hl]; exact hj)])
  rwa [show (l.map bv).length = n by simp [hl]] at this

theorem zip_xor (x y : Bs) : ((List.zip (x.map bv) (y.map bv)).map fun p => match p with | (.int _ a, .int _ b) => Value.int .u8 (Int.ofNat (a.toNat ^^^ b.toNat)) | _ => undef) = (List.zipWith (· ^^^ ·) x y).map bv := by
  induction x generalizing y with
  | nil => rfl
  | cons a x ih =>
    cases y with
    | nil => rfl
    | cons b y =>
      simp only [List.map_cons, List.zip_cons_cons, List.zipWith_cons_cons, ih]
      simp [bv]

theorem run_xorBytes {P : Program} {w : World} {b T : Nat} {ext : List Value} {d : Dg} (h : DgAt w b T ext d) {o k b' o' : Nat} {p : Bs} (hk : p.length = k) (hok : o + k ≤ 200)
    (hp : ∀ i, i < k → w.cell? ⟨b', o' + i, none⟩ = some (.int .u8 (p.getD i 0).toNat)) :
    ∃ w', (Extern.CryptoHooks.xorBytes #[.pointer (some ⟨b, o, none⟩), .pointer (some ⟨b, o, none⟩), .pointer (some ⟨b', o', none⟩), .int .i64 (k : Int)]).run P w = .ok (.tuple #[]) w' ∧
      DgAt w' b T ext { d with a := xorAt d.a o p } ∧ Fr [b] w w' := by
  have h1 := h.1
  have hl1 : ((d.a.drop o).take k).length = k := by simp [h1]; omega
  have hx : (loadCells ⟨b, o, none⟩ k).run P w = .ok (((d.a.drop o).take k).map bv).toArray w := run_loadBytes hl1 (fun i hi => by
    rw [h.byte (show o + i < 200 by omega)]
    simp [List.getD_eq_getElem?_getD, List.getElem?_take_of_lt hi])
  have hy : (loadCells ⟨b', o', none⟩ k).run P w = .ok (p.map bv).toArray w := run_loadBytes hk hp
  have hm := run_mapM_arr (P := P) xorPair
    (fun q => match q with | (.int _ a, .int _ b) => Value.int .u8 (Int.ofNat (a.toNat ^^^ b.toNat)) | _ => undef) w (List.zip (((d.a.drop o).take k).map bv) (p.map bv)) (fun x hx => by
      obtain ⟨x1, x2⟩ := x
      have h1 := List.of_mem_zip hx
      obtain ⟨y1, _, rfl⟩ := List.mem_map.1 h1.1
      obtain ⟨y2, _, rfl⟩ := List.mem_map.1 h1.2
      rfl)
  rw [zip_xor] at hm
  have hz : List.zipWith (· ^^^ ·) ((d.a.drop o).take k) p = List.zipWith (· ^^^ ·) (d.a.drop o) p := by
    conv => rhs; rw [← List.take_append_drop k (d.a.drop o)]
    rw [← List.append_nil p, List.zipWith_append (by simp [hk, h1]; omega)]
    simp
  have hzl : (List.zipWith (· ^^^ ·) (d.a.drop o) p).length = k := by simp [h1, hk]; omega
  rw [hz] at hm
  have hst := run_storeCells_at P b o T ((List.zipWith (· ^^^ ·) (d.a.drop o) p).map bv) 0 _ w h.2 (by simp [Dg.cells, h1, hk]; omega) (bytes_one _)
  refine ⟨_, ?_, ⟨by rw [xorAt_length _ _ _ (by omega)]; exact h1, setRow_heap _ _ _ ((({ d with a := xorAt d.a o p } : Dg).cells ++ ext).toArray) _ _ h.2⟩, (Fr.refl _ _).setRow _ _ (.inr (by simp))⟩
  rw [xor_eq]
  unfold xorBody
  simp only [asInt, asIntOf, asAddr, Sem.run_bind, Sem.run_pure, Result.andThen_ok, Int.toNat_natCast, hx, hy, List.zip_toArray]
  rw [hm]
  simp only [Result.andThen_ok]
  rw [hst]
  simp only [Result.andThen_ok, Nat.add_zero]
  congr 3
  simp only [Dg.cells, xorAt, List.length_map, hzl, List.append_assoc, hk, List.map_append, List.map_take, List.map_drop]
  rw [List.take_append_of_le_length (by simp [h1]; omega), List.drop_append_of_le_length (by simp [h1]; omega)]
end Go.Sha
namespace Go.Proofs.Ytkijnpjefccepaa
open Go.ChangeShapes Go.WideShapes Go.ChangeAt Go.RowKit Go.Sha
theorem anyOverlap_run (b o b' o' la xa lb xb : Nat) (w : World) :
    (match Extern.find Try.f107 with | some e => (e #[.slice (some ⟨b, o, none⟩) la xa, .slice (some ⟨b', o', none⟩) lb xb]).run Try.prog w | none => .ok (.bool true) w) = (ovTail ⟨b, o, none⟩ ⟨b', o', none⟩ la lb 1).run Try.prog w := by
  kernel_rfl
end Go.Proofs.Ytkijnpjefccepaa
end

section
namespace Go.Proofs.Ytkijnpjefccepaa
open Go.ChangeShapes Go.WideShapes Go.ChangeAt Go.RowKit Go.Sha

theorem info5x : (Try.prog.info? 5).map (fun i => (i.zero, i.size, i.bytes)) = some (some (.int .u8 0), 1, 1) := by kernel_rfl

/-- a row of cells that holds something lies in block b -/
def HasRow (w : World) (b : Nat) : Prop := ∃ cs t fz, w.heap[b]? = some (.cells cs t fz) ∧ cs.size ≠ 0
theorem hasRow_of_cell {w : World} {b i : Nat} {v : Value} (h : w.cell? ⟨b, i, none⟩ = some v) : HasRow w b := by
  simp only [World.cell?] at h
  split at h
  · rename_i c t fz hc
    simp at h
    refine ⟨c, t, fz, hc, ?_⟩
    have := (Array.getElem?_eq_some_iff.1 h).1
    omega
  · cases h

theorem inexact_same (b o k c c' : Nat) (w : World) (hk : 0 < k) :
    Calls Try.prog 105 #[.slice (some ⟨b, o, none⟩) k c, .slice (some ⟨b, o, none⟩) k c'] w fun e w' => e = .returned (.bool false) ∧ ∃ n, w' = w.drewN n := by
  obtain ⟨i0, hi0, _, hz1, _⟩ := info_parts info5x
  have h1 : ((k : Int) == 0) = false := by rw [beq_eq_false_iff_ne]; omega
  have h2 : (0 : Int) < (k : Int) := by omega
  have he : ∀ n, (binOp .eql 119 (.pointer (some ⟨b, o, none⟩)) (.pointer (some ⟨b, o, none⟩))).run Try.prog (w.drewN n) = .ok (.bool true) (w.drewN n) := fun n =>
    run_eql_ptr_same _ ⟨b, o, none⟩ Try.underlying119 hi0
  go_enter Try.func105, Try.ntmps105
  go_wp2
  go_quiet (fail)
  go_wp2
  go_ret
  exact ⟨rfl, _, rfl⟩

theorem anyOverlap_ne (b o b' o' la xa lb xb T : Nat) (cs : Array Value) (w : World) (hne : b ≠ b') (h : w.heap[b]? = some (.cells cs T (0, 0))) (h' : HasRow w b') :
    (callFunc 107 #[.slice (some ⟨b, o, none⟩) la xa, .slice (some ⟨b', o', none⟩) lb xb]).run Try.prog w = .ok (.value (.bool false)) w := by
  obtain ⟨cb, tb, fz, hb, hz⟩ := h'
  rw [run_callFunc_match (d := .ok (.bool true) w) Try.func107 (by kernel_rfl) (by kernel_rfl) (by kernel_rfl) (by kernel_rfl) (anyOverlap_run b o b' o' la xa lb xb w), run_ovTail_ne hne h hb hz]
  rfl

theorem inexact_ne (b o b' o' k c c' T : Nat) (cs : Array Value) (w : World) (hk : 0 < k) (hne : b ≠ b') (h : w.heap[b]? = some (.cells cs T (0, 0))) (h' : HasRow w b') :
    Calls Try.prog 105 #[.slice (some ⟨b, o, none⟩) k c, .slice (some ⟨b', o', none⟩) k c'] w fun e w' => e = .returned (.bool false) ∧ ∃ n, w' = w.drewN n := by
  obtain ⟨i0, hi0, _, hz1, _⟩ := info_parts info5x
  have h1 : ((k : Int) == 0) = false := by rw [beq_eq_false_iff_ne]; omega
  have h2 : (0 : Int) < (k : Int) := by omega
  have he : ∀ n, (binOp .eql 119 (.pointer (some ⟨b, o, none⟩)) (.pointer (some ⟨b', o', none⟩))).run Try.prog (w.drewN n) = .ok (.bool false) (w.drewN n) := fun n => by
    obtain ⟨cb, tb, fz, hb, hz⟩ := h'
    exact run_eql_ptr_ne (w := w.drewN n) (a := ⟨b, o, none⟩) (b := ⟨b', o', none⟩) Try.underlying119 hi0 (by omega) hne h hb hz
  have ha : ∀ n, (callFunc 107 #[.slice (some ⟨b, o, none⟩) k c, .slice (some ⟨b', o', none⟩) k c']).run Try.prog (w.drewN n) = .ok (.value (.bool false)) (w.drewN n) := fun n =>
    anyOverlap_ne b o b' o' k c k c' T cs (w.drewN n) hne h h'
  have H := Lib.hid h
  clear h
  go_enter Try.func105, Try.ntmps105
  go_wp2
  go_quiet (fail)
  go_wp2
  go_ret
  exact ⟨rfl, _, rfl⟩

theorem xor_call {w : World} {b T : Nat} {ext : List Value} {d : Dg} (h : DgAt w b T ext d) {o k b' o' : Nat} {p : Bs} (hk : p.length = k) (hok : o + k ≤ 200)
    (hp : ∀ i, i < k → w.cell? ⟨b', o' + i, none⟩ = some (.int .u8 (p.getD i 0).toNat)) :
    ∃ w', (callFunc 106 #[.pointer (some ⟨b, o, none⟩), .pointer (some ⟨b, o, none⟩), .pointer (some ⟨b', o', none⟩), .int .i64 (k : Int)]).run Try.prog w = .ok (.value (.tuple #[])) w' ∧
      DgAt w' b T ext { d with a := xorAt d.a o p } ∧ Fr [b] w w' := by
  obtain ⟨w', h1, h2, h3⟩ := run_xorBytes (P := Try.prog) h hk hok hp
  refine ⟨w', ?_, h2, h3⟩
  rw [run_callFunc_ext Try.func106 _ (Extern.CryptoHooks.xorBytes #[.pointer (some ⟨b, o, none⟩), .pointer (some ⟨b, o, none⟩), .pointer (some ⟨b', o', none⟩), .int .i64 (k : Int)]) (by kernel_rfl) (by kernel_rfl) (by kernel_rfl) (by kernel_rfl), h1]
  rfl

set_option maxRecDepth 100000 in
set_option maxHeartbeats 400000 in
/-- XORBytes lays the first k bytes of p over the sponge's, from the place o on; k is the lesser of the two lengths -/
theorem XORBytes_any (w : World) (b T : Nat) (ext : List Value) (d : Dg) (o m c b' o' n c' k : Nat) (p : Bs) (h : DgAt w b T ext d) (hne : b ≠ b') (hom : o + m ≤ 200) (hk0 : 0 < k) (hkm : k ≤ m) (hkn : k ≤ n) (hmin : (if n < m then (n : Int) else (m : Int)) = (k : Int))
    (hmc : m ≤ c) (hnc : n ≤ c') (hp : ∀ i, i < n → w.cell? ⟨b', o' + i, none⟩ = some (.int .u8 (p.getD i 0).toNat)) (hpl : p.length = n) :
    Calls Try.prog 104 #[.slice (some ⟨b, o, none⟩) m c, .slice (some ⟨b, o, none⟩) m c, .slice (some ⟨b', o', none⟩) n c'] w
      (RetD (.int .i64 k) b T ext { d with a := xorAt d.a o (p.take k) } w) := by
  have hro : HasRow w b' := hasRow_of_cell (hp 0 (by omega))
  have h2 := h.2
  have H2 := Lib.hid h2
  clear h2
  have h1 : ((k : Int) == 0) = false := by rw [beq_eq_false_iff_ne]; omega
  have h3 : decide ((m : Int) < (k : Int)) = false := by simp; omega
  have HP := Lib.hid hp
  clear hp
  have hkc : k ≤ c := by omega
  have hkc' : k ≤ c' := by omega
  go_enter Try.func104, Try.ntmps104
  go_wp2
  go_quiet ((go_at_call 105; first | (with_reducible exact Calls.quiet_of (inexact_same b o k c c _ hk0)) | ((with_reducible refine Calls.quiet_of (inexact_ne b o b' o' k c c' T (d.cells ++ ext).toArray _ hk0 hne ?_ ?_)); exact H2.out; exact hro)))
  go_wp2
  clear H2 hro hmin h1 h3
  refine wp_region_still_tail 7 (by kernel_rfl) (by kernel_rfl) ?_
  have f1 : Fr [b] w (w.drewN nq).drew := ((Fr.refl _ _).drewN _).drew
  have h4 : DgAt (w.drewN nq).drew b T ext d := h
  have hp4 : ∀ i, i < n → (w.drewN nq).drew.cell? ⟨b', o' + i, none⟩ = some (.int .u8 (p.getD i 0).toNat) := HP.out
  change wpStill Try.prog _ (w.drewN nq).drew (fun a' => wpList Try.prog _ _ _ a' (w.drewN nq).drew) _ _
  generalize (w.drewN nq).drew = w2 at f1 h4 hp4 ⊢
  obtain ⟨w3, hc, h5, f5⟩ := xor_call h4 (o := o) (k := k) (b' := b') (o' := o') (p := p.take k) (by simp; omega) (by omega) (fun i hi => by
    rw [hp4 i (by omega)]
    simp [List.getD_eq_getElem?_getD, List.getElem?_take_of_lt hi])
  clear hp4 h4 HP h
  have hm0 : 0 < m := by omega
  have hn0 : 0 < n := by omega
  simp only [List.take_succ_cons, List.take_zero, List.drop_succ_cons, List.drop_zero]
  repeat still_step
  refine wpStill_nil ?_
  go_wp2
  go_ret
  exact ⟨rfl, h5, f1.trans f5⟩
end Go.Proofs.Ytkijnpjefccepaa
end

section
namespace Go.Sha

/-- a sponge of bytes, its place within its rate -/
structure Dg.Ok (d : Dg) : Prop where
  len : d.a.length = 200
  lt : d.n < d.rate
  le : d.rate ≤ 168

def absorb1 (d : Dg) (x : UInt8) : Dg :=
  if d.n + 1 = d.rate then { d with a := kf (d.a.set d.n (d.a.getD d.n 0 ^^^ x)), n := 0 }
  else { d with a := d.a.set d.n (d.a.getD d.n 0 ^^^ x), n := d.n + 1 }
/-- a sponge behind the absorption of bytes -/
def absorb (d : Dg) (p : Bs) : Dg := p.foldl absorb1 d
theorem absorb_nil (d : Dg) : absorb d [] = d := rfl
theorem absorb_append (d : Dg) (p q : Bs) : absorb d (p ++ q) = absorb (absorb d p) q := by simp [absorb, List.foldl_append]
theorem absorb1_ok {d : Dg} (h : d.Ok) (x : UInt8) : (absorb1 d x).Ok ∧ (absorb1 d x).rate = d.rate ∧ (absorb1 d x).ds = d.ds ∧ (absorb1 d x).out = d.out ∧ (absorb1 d x).st = d.st := by
  unfold absorb1
  have h1 := h.len
  have h2 := h.lt
  have h3 := h.le
  split
  · exact ⟨⟨kf_length _, by simp only; omega, h3⟩, rfl, rfl, rfl, rfl⟩
  · exact ⟨⟨by simp [h1], by simp only; omega, h3⟩, rfl, rfl, rfl, rfl⟩
theorem absorb_ok {d : Dg} (h : d.Ok) (p : Bs) : (absorb d p).Ok ∧ (absorb d p).rate = d.rate ∧ (absorb d p).ds = d.ds ∧ (absorb d p).out = d.out ∧ (absorb d p).st = d.st := by
  induction p generalizing d with
  | nil => exact ⟨h, rfl, rfl, rfl, rfl⟩
  | cons x p ih =>
    have h1 := absorb1_ok h x
    have h2 := ih h1.1
    exact ⟨h2.1, h2.2.1.trans h1.2.1, h2.2.2.1.trans h1.2.2.1, h2.2.2.2.1.trans h1.2.2.2.1, h2.2.2.2.2.trans h1.2.2.2.2⟩

theorem xorAt_nil (a : Bs) (i : Nat) : xorAt a i [] = a := by simp [xorAt]
theorem xorAt_cons (a : Bs) (i : Nat) (x : UInt8) (p : Bs) (h : i < a.length) : xorAt a i (x :: p) = xorAt (a.set i (a.getD i 0 ^^^ x)) (i + 1) p := by
  unfold xorAt
  rw [List.drop_eq_getElem_cons h, getD_at a i h]
  simp only [List.zipWith_cons_cons, List.length_cons]
  rw [show i + (p.length + 1) = i + 1 + p.length by omega]
  rw [List.drop_set, if_pos (by omega), List.drop_set, if_pos (by omega)]
  rw [List.take_set, List.take_succ_eq_append_getElem h, List.set_append_right _ _ (by simp; omega)]
  simp [Nat.min_eq_left (Nat.le_of_lt h)]

/-- a piece that fits: the bytes are laid over the sponge's; if that fills the rate, the permutation -/
theorem absorb_piece (d : Dg) (p : Bs) (h : d.Ok) (hp : d.n + p.length ≤ d.rate) :
    absorb d p = if d.n + p.length = d.rate then permD { d with a := xorAt d.a d.n p } else { d with a := xorAt d.a d.n p, n := d.n + p.length } := by
  induction p generalizing d with
  | nil =>
    have := h.lt
    rw [if_neg (by simp; omega), xorAt_nil]
    rfl
  | cons x p ih =>
    have h1 := h.len
    have h2 := h.le
    simp only [List.length_cons] at hp ⊢
    show absorb (absorb1 d x) p = _
    rw [xorAt_cons d.a d.n x p (by omega)]
    cases p with
    | nil =>
      rw [xorAt_nil]
      simp only [List.length_nil, Nat.zero_add]
      rfl
    | cons y p =>
      simp only [List.length_cons] at hp
      have e : absorb1 d x = { d with a := d.a.set d.n (d.a.getD d.n 0 ^^^ x), n := d.n + 1 } := by
        unfold absorb1
        rw [if_neg (by omega)]
      rw [e, ih { d with a := d.a.set d.n (d.a.getD d.n 0 ^^^ x), n := d.n + 1 } ⟨by simp [h1], by simp only; omega, h2⟩ (by simp only [List.length_cons]; omega)]
      simp only [List.length_cons]
      by_cases hf : d.n + (p.length + 1 + 1) = d.rate
      · rw [if_pos hf, if_pos (by omega)]
        rfl
      · rw [if_neg hf, if_neg (by omega)]
        congr 1
        omega

/-- one byte of output -/
def squeeze1 (d : Dg) : Dg := if d.n = d.rate then permD d else d
def squeeze : Nat → Dg → Bs × Dg
  | 0, d => ([], d)
  | k + 1, d => ((squeeze1 d).a.getD (squeeze1 d).n 0 :: (squeeze k { squeeze1 d with n := (squeeze1 d).n + 1 }).1, (squeeze k { squeeze1 d with n := (squeeze1 d).n + 1 }).2)
theorem squeeze_length (k : Nat) (d : Dg) : (squeeze k d).1.length = k := by
  induction k generalizing d with
  | zero => rfl
  | succ k ih => simp [squeeze, ih]
theorem squeeze_add (j k : Nat) (d : Dg) : squeeze (j + k) d = ((squeeze j d).1 ++ (squeeze k (squeeze j d).2).1, (squeeze k (squeeze j d).2).2) := by
  induction j generalizing d with
  | zero => simp [squeeze]
  | succ j ih =>
    rw [show j + 1 + k = (j + k) + 1 by omega]
    simp only [squeeze, ih, List.cons_append]
/-- a sponge that is read: its place is at most its rate -/
structure Dg.Sq (d : Dg) : Prop where
  len : d.a.length = 200
  le : d.n ≤ d.rate
  pos : 0 < d.rate
  rle : d.rate ≤ 168
theorem squeeze1_sq {d : Dg} (h : d.Sq) : (squeeze1 d).Sq ∧ (squeeze1 d).n < (squeeze1 d).rate ∧ (squeeze1 d).rate = d.rate ∧ (squeeze1 d).ds = d.ds ∧ (squeeze1 d).out = d.out ∧ (squeeze1 d).st = d.st := by
  have h1 := h.le
  have h2 := h.pos
  unfold squeeze1
  split
  · exact ⟨⟨kf_length _, Nat.zero_le _, h.pos, h.rle⟩, h.pos, rfl, rfl, rfl, rfl⟩
  · exact ⟨h, by omega, rfl, rfl, rfl, rfl⟩
theorem squeeze_sq (k : Nat) (d : Dg) (h : d.Sq) : (squeeze k d).2.Sq ∧ (squeeze k d).2.rate = d.rate ∧ (squeeze k d).2.ds = d.ds ∧ (squeeze k d).2.out = d.out ∧ (squeeze k d).2.st = d.st := by
  induction k generalizing d with
  | zero => exact ⟨h, rfl, rfl, rfl, rfl⟩
  | succ k ih =>
    have h1 := squeeze1_sq h
    have h2 := ih { squeeze1 d with n := (squeeze1 d).n + 1 } ⟨h1.1.len, h1.2.1, h1.1.pos, h1.1.rle⟩
    exact ⟨h2.1, h2.2.1.trans h1.2.2.1, h2.2.2.1.trans h1.2.2.2.1, h2.2.2.2.1.trans h1.2.2.2.2.1, h2.2.2.2.2.trans h1.2.2.2.2.2⟩
/-- a piece that lies within the rate -/
theorem squeeze_piece (k : Nat) (d : Dg) (h : d.Sq) (hk : d.n + k ≤ d.rate) (hlt : d.n < d.rate) : squeeze k d = ((d.a.drop d.n).take k, { d with n := d.n + k }) := by
  induction k generalizing d with
  | zero => simp [squeeze]
  | succ k ih =>
    have h1 := h.len
    have h2 := h.rle
    have e : squeeze1 d = d := by unfold squeeze1; rw [if_neg (by omega)]
    simp only [squeeze, e]
    have hd : d.a.drop d.n = d.a.getD d.n 0 :: d.a.drop (d.n + 1) := by rw [List.drop_eq_getElem_cons (by omega), getD_at _ _ (by omega)]
    cases k with
    | zero =>
      simp only [squeeze, Nat.zero_add, hd, List.take_succ_cons, List.take_zero]
    | succ k =>
      rw [ih { d with n := d.n + 1 } ⟨h1, by simp only; omega, h.pos, h2⟩ (by simp only; omega) (by simp only; omega)]
      simp only [hd, List.take_succ_cons]
      congr 2
      omega
end Go.Sha
end

section
namespace Go.Proofs.Ytkijnpjefccepaa
open Go.ChangeShapes Go.WideShapes Go.ChangeAt Go.RowKit Go.Sha

def slLen : Value → Nat | .slice _ n _ => n | _ => 0
def WrRel (w : World) (b T : Nat) (ext : List Value) (d : Dg) (p : Bs) (b' o' np cp : Nat) (sl : Value) (wr : World) : Prop :=
  ∃ j ad, j ≤ np ∧ sl = .slice ad (np - j) (cp - j) ∧ (j < np → ad = some ⟨b', o' + j, none⟩) ∧ DgAt wr b T ext (absorb d (p.take j)) ∧ Fr [b] w wr

theorem absorb_step (d D : Dg) (p : Bs) (j k : Nat) (hd : d.Ok) (hD : absorb d (p.take j) = D) (hj : j + k ≤ p.length) (hk : D.n + k ≤ D.rate) :
    absorb d (p.take (j + k)) = if D.n + k = D.rate then permD { D with a := xorAt D.a D.n ((p.drop j).take k) } else { D with a := xorAt D.a D.n ((p.drop j).take k), n := D.n + k } := by
  subst hD
  have e : p.take (j + k) = p.take j ++ (p.drop j).take k := List.take_add
  have h := absorb_ok hd (p.take j)
  have hl : ((p.drop j).take k).length = k := by simp; omega
  rw [e, absorb_append, absorb_piece _ _ h.1 (by rw [hl]; exact hk), hl]
theorem drop_getD (p : Bs) (j i : Nat) : (p.drop j).getD i 0 = p.getD (j + i) 0 := by simp [List.getD_eq_getElem?_getD]

set_option maxRecDepth 100000 in
set_option maxHeartbeats 800000 in
theorem writeGeneric_any (w : World) (b T : Nat) (ext : List Value) (d : Dg) (ap : Option Addr) (np cp : Nat) (p : Bs) (h : DgAt w b T ext d) (hd : d.Ok) (hst : d.st = 0) (hp : Sl w ap np cp p) (hne : ∀ x, ap = some x → np ≠ 0 → x.block ≠ b) :
    Calls Try.prog 101 #[.pointer (some ⟨b, 0, none⟩), .slice ap np cp] w (RetD (.tuple #[.int .i64 np, .nilIface]) b T ext (absorb d p) w) := by
  obtain ⟨b', o', hbo⟩ : ∃ b' o', np = 0 ∨ (ap = some ⟨b', o', none⟩ ∧ b ≠ b' ∧ ∀ i, i < np → w.cell? ⟨b', o' + i, none⟩ = some (.int .u8 (p.getD i 0).toNat)) := by
    rcases hp.cel with h0 | ⟨b', o', rfl, hc⟩
    · exact ⟨0, 0, .inl h0⟩
    · by_cases h0 : np = 0
      · exact ⟨0, 0, .inl h0⟩
      · exact ⟨b', o', .inr ⟨rfl, fun e => hne _ rfl h0 e.symm, hc⟩⟩
  have hm := hp.max
  have hc := hp.cap
  unfold maxLen at hm
  have q1 := h.cst
  rw [hst] at q1
  go_enter Try.func101, Try.ntmps101
  go_wp2
  go_loopw [1, 6] (fun sl _ wr => WrRel w b T ext d p b' o' np cp sl wr) (fun sl _ _ => slLen sl)
  case atStart =>
    refine ⟨0, ap, Nat.zero_le _, rfl, fun h0 => ?_, h, Fr.refl _ _⟩
    rcases hbo with hbo | ⟨rfl, _, _⟩
    · omega
    · rfl
  case round =>
    obtain ⟨j, ad, hj, rfl, had, hD, hf⟩ := hrel
    by_cases hlt : j < np
    · obtain rfl := had hlt
      rcases hbo with hbo | ⟨rfl, hbb, hcell⟩
      · omega
      have hok := absorb_ok hd (p.take j)
      have hl := hp.len
      have HL := Lib.hid hl
      clear hl
      generalize hDD : absorb d (p.take j) = D at hD hok
      have HDD := Lib.hid hDD
      clear hDD
      obtain ⟨hok, hrate, _⟩ := hok
      have HR := Lib.hid hrate
      clear hrate
      have hn1 := hok.lt
      have hn2 := hok.le
      obtain ⟨k, hk1, hk2, hk3, hk4⟩ : ∃ k : Nat, 0 < k ∧ k ≤ D.rate - D.n ∧ k ≤ np - j ∧ (if np - j < D.rate - D.n then ((np - j : Nat) : Int) else ((D.rate - D.n : Nat) : Int)) = (k : Int) := by
        by_cases h : np - j < D.rate - D.n
        · exact ⟨np - j, by omega, by omega, by omega, by rw [if_pos h]⟩
        · exact ⟨D.rate - D.n, by omega, by omega, by omega, by rw [if_neg h]⟩
      have hcj : ∀ i, i < np - j → wr.cell? ⟨b', o' + j + i, none⟩ = some (.int .u8 ((p.drop j).getD i 0).toNat) := fun i hi => by
        rw [drop_getD, Nat.add_assoc]
        exact hf.cell (hcell (j + i) (by omega)) (by simpa using hbb.symm)
      have HC := Lib.hid hcj
      clear hcj
      go_wp2
      refine wp_region_still_tail 25 (by kernel_rfl) (by kernel_rfl) ?_
      have f1 : Fr [b] w wr.drew := hf.drew
      have D1 : DgAt wr.drew b T ext D := hD
      have HC1 : Hid (∀ i, i < np - j → wr.drew.cell? ⟨b', o' + j + i, none⟩ = some (.int .u8 ((p.drop j).getD i 0).toNat)) := HC
      change wpStill Try.prog _ wr.drew (fun a' => wpList Try.prog _ _ _ a' wr.drew) _ _
      generalize wr.drew = w2 at f1 D1 HC1 ⊢
      have q2 := D1.cn
      have q3 := D1.crate
      clear HC hD hf hcell
      have hb1 : D.n ≤ D.rate := by omega
      have hb2 : D.rate ≤ 200 := by omega
      have hb3 : (D.rate : Int) ≤ 200 := by omega
      have hb4 : ¬ D.n = 200 := by omega
      simp only [List.take_succ_cons, List.take_zero, List.drop_succ_cons, List.drop_zero]
      repeat still_step
      refine wpStill_nil ?_
      go_wp2_with fail
      refine (XORBytes_any w2 b T ext D D.n (D.rate - D.n) (200 - D.n) b' (o' + j) (np - j) (cp - j) k (p.drop j) D1 hbb (by omega) hk1 hk2 hk3 hk4 (by omega) (by omega) HC1.out (by rw [List.length_drop, HL.out])).mono ?_
      rintro e w3 ⟨rfl, D3, f3⟩
      have f4 := f1.trans f3
      clear f1 f3 D1 q2 q3 HC1 hk4
      have q2 := D3.cn
      have q3 := D3.crate
      have q4 := D3.fz 200
      simp only at q2 q3
      have hsum : D.n + k ≤ 168 := by omega
      have D5 := D3.setN (D.n + k)
      have f5 : Fr [b] w (w3.setCell ⟨b, 200, none⟩ (.int .i64 ((D.n + k : Nat) : Int))) := f4.setCell _ _ (.inr (by simp))
      by_cases hcap : cp - j = k
      · go_wp2
        rw [Int.natCast_add] at D5 f5
        generalize w3.setCell ⟨b, 200, none⟩ (.int .i64 ((D.n : Int) + (k : Int))) = w5 at D5 f5 ⊢
        clear q2 q3 q4 D3 f4
        have q2 := D5.cn
        have q3 := D5.crate
        simp only at q2 q3
        by_cases hfull : D.n + k = D.rate
        · have hz : ((D.n : Int) + (k : Int) == (D.rate : Int)) = true := by rw [beq_iff_eq]; omega
          have HF := Lib.hid hfull
          clear hfull
          go_quiet (fail)
          go_wp2_with fail
          have D6 : DgAt (w5.drewN nq) b T ext { D with a := xorAt D.a D.n ((p.drop j).take k), n := D.n + k } := D5
          have f6 : Fr [b] w (w5.drewN nq) := f5.drewN _
          refine (permute_any _ _ _ _ _ D6).mono ?_
          rintro e w7 ⟨rfl, D7, f7⟩
          go_wp2_with fail
          refine ⟨⟨j + k, _, by omega, by congr 1 <;> omega, fun _ => by omega, ?_, f6.trans f7⟩, by simp [slLen]; omega⟩
          rw [absorb_step d D p j k hd HDD.out (by rw [HL.out]; omega) (by omega), if_pos HF.out]
          exact D7
        · have hz : ((D.n : Int) + (k : Int) == (D.rate : Int)) = false := by rw [beq_eq_false_iff_ne]; omega
          have HF := Lib.hid hfull
          clear hfull
          go_quiet (fail)
          go_wp2_with fail
          refine ⟨⟨j + k, _, by omega, by congr 1 <;> omega, fun _ => by omega, ?_, f5.drewN _⟩, by simp [slLen]; omega⟩
          rw [absorb_step d D p j k hd HDD.out (by rw [HL.out]; omega) (by omega), if_neg HF.out]
          exact D5
      · go_wp2
        rw [Int.natCast_add] at D5 f5
        generalize w3.setCell ⟨b, 200, none⟩ (.int .i64 ((D.n : Int) + (k : Int))) = w5 at D5 f5 ⊢
        clear q2 q3 q4 D3 f4
        have q2 := D5.cn
        have q3 := D5.crate
        simp only at q2 q3
        by_cases hfull : D.n + k = D.rate
        · have hz : ((D.n : Int) + (k : Int) == (D.rate : Int)) = true := by rw [beq_iff_eq]; omega
          have HF := Lib.hid hfull
          clear hfull
          go_quiet (fail)
          go_wp2_with fail
          have D6 : DgAt (w5.drewN nq) b T ext { D with a := xorAt D.a D.n ((p.drop j).take k), n := D.n + k } := D5
          have f6 : Fr [b] w (w5.drewN nq) := f5.drewN _
          refine (permute_any _ _ _ _ _ D6).mono ?_
          rintro e w7 ⟨rfl, D7, f7⟩
          go_wp2_with fail
          refine ⟨⟨j + k, _, by omega, by congr 1 <;> omega, fun _ => by congr 2; omega, ?_, f6.trans f7⟩, by simp [slLen]; omega⟩
          rw [absorb_step d D p j k hd HDD.out (by rw [HL.out]; omega) (by omega), if_pos HF.out]
          exact D7
        · have hz : ((D.n : Int) + (k : Int) == (D.rate : Int)) = false := by rw [beq_eq_false_iff_ne]; omega
          have HF := Lib.hid hfull
          clear hfull
          go_quiet (fail)
          go_wp2_with fail
          refine ⟨⟨j + k, _, by omega, by congr 1 <;> omega, fun _ => by congr 2; omega, ?_, f5.drewN _⟩, by simp [slLen]; omega⟩
          rw [absorb_step d D p j k hd HDD.out (by rw [HL.out]; omega) (by omega), if_neg HF.out]
          exact D5
    · go_wp2
      obtain rfl : j = np := by omega
      rw [List.take_of_length_le (by rw [hp.len]; exact Nat.le_refl _)] at hD
      go_ret2
      exact ⟨rfl, hD, hf⟩
end Go.Proofs.Ytkijnpjefccepaa
end

section
namespace Go.Sha
open Go.RowKit
section
variable {P : Program} {w : World}
/-- copy of bytes into a row of cells -/
theorem run_copy_bytes {t tx ty e ed : TypeId} {i : TypeInfo} (ht : P.underlying t = some (.slice e)) (hi : P.info? e = some i) (hsz : i.size = 1)
    {g o m c b n q c2 k : Nat} {cur : Array Value} {l : Bs} (hg : w.heap[g]? = some (.cells cur ed (0, 0))) (hk : Nat.min q m = k) (hok : o + k ≤ cur.size) (hl : l.length = k)
    (hc : ∀ i, i < k → w.cell? ⟨b, n + i, none⟩ = some (.int .u8 (l.getD i 0).toNat)) :
    (Builtin.copy_ #[t, tx] ty #[.slice (some ⟨g, o, none⟩) m c, .slice (some ⟨b, n, none⟩) q c2]).run P w = .ok (.int .i64 (k : Int)) (w.setRow g (cur.toList.take o ++ l.map bv ++ cur.toList.drop (o + k)).toArray) := by
  have hld : (loadCells ⟨b, n, none⟩ k).run P w = .ok (l.map bv).toArray w := run_loadBytes hl hc
  have hst := run_storeCells_at P g o ed (l.map bv) 0 cur w hg (by simp [hl]; omega) (bytes_one _)
  simp only [Nat.add_zero, List.length_map, hl] at hst
  simp [Builtin.copy_, run_underlying ht, sizeOf, typeInfo, hi, hsz, Builtin.lenOf, hk, Builtin.firstCells, hld, hst, goInt]
theorem wpList_copy_run {ops : Array Oper} {rest : List Oper} {o : Oper} {a : Act} {Q : Exit → Act → World → Prop} {w' : World} {v : Value} (hgd : o.guard = none) (s x : Operand) (t tx : TypeId)
    (ho : o.op = .call { callee := .builtin .copy, args := #[s, x], argTypes := #[t, tx] }) {vs vx : Value} (hs : a.eval s = vs) (hx : a.eval x = vx)
    (hr : (Builtin.copy_ #[t, tx] o.type #[vs, vx]).run P w = .ok v w') (h : wpList P ops Q rest (a.put o.dst v) w') : wpList P ops Q (o :: rest) a w := by
  refine wpList_plain hgd fun K hK => ?_
  unfold Oper.wp execOp
  simp only [ho, resolve, invoke, builtin, Sem.run_bind, Sem.run_pure, Result.andThen_ok, List.map_toArray, List.map_cons, List.map_nil, hs, hx, hr]
  exact hK _ _ h
end
/-- the cells of a row behind bytes that were laid into it from a place on -/
def splice (cur : Array Value) (o : Nat) (l : Bs) : Array Value := (cur.toList.take o ++ l.map bv ++ cur.toList.drop (o + l.length)).toArray
theorem splice_def (cur : Array Value) (o : Nat) (l : Bs) (k : Nat) (h : l.length = k) : (cur.toList.take o ++ l.map bv ++ cur.toList.drop (o + k)).toArray = splice cur o l := by subst h; rfl
theorem splice_nil (cur : Array Value) (o : Nat) : splice cur o [] = cur := by simp [splice]
theorem splice_size (cur : Array Value) (o : Nat) (l : Bs) (h : o + l.length ≤ cur.size) : (splice cur o l).size = cur.size := by
  simp [splice]; omega
theorem splice_splice (cur : Array Value) (o : Nat) (l m : Bs) (h : o + l.length + m.length ≤ cur.size) : splice (splice cur o l) (o + l.length) m = splice cur o (l ++ m) := by
  apply Array.ext'
  simp only [splice, List.map_append, List.length_append]
  have h1 : (cur.toList.take o ++ l.map bv).length = o + l.length := by simp; omega
  rw [List.take_append_of_le_length (by omega), List.take_of_length_le (by omega)]
  rw [List.drop_append, List.drop_of_length_le (by omega), h1, List.drop_drop]
  simp only [List.append_assoc, List.nil_append]
  congr 4
  omega

/-- how a sponge begins to be read: if it absorbs still, it is padded first -/
def startD (d : Dg) : Dg := if d.st = 0 then padD d else d
theorem padD_sq {d : Dg} (h : d.Ok) : (padD d).Sq ∧ (padD d).n = 0 ∧ (padD d).rate = d.rate ∧ (padD d).ds = d.ds ∧ (padD d).out = d.out ∧ (padD d).st = 1 := by
  have h1 := h.lt
  have h2 := h.le
  exact ⟨⟨kf_length _, Nat.zero_le _, by simp only [padD]; omega, h2⟩, rfl, rfl, rfl, rfl, rfl⟩
end Go.Sha
namespace Go.Proofs.Ytkijnpjefccepaa
open Go.ChangeShapes Go.WideShapes Go.ChangeAt Go.RowKit Go.Sha

/-- what a round of read finds: j bytes have been handed out -/
def RdRel (w : World) (b T : Nat) (ext : List Value) (d : Dg) (g o m c e : Nat) (cur : Array Value) (sl : Value) (wr : World) : Prop :=
  ∃ j ad, j ≤ m ∧ sl = .slice ad (m - j) (c - j) ∧ (j < m → ad = some ⟨g, o + j, none⟩) ∧ DgAt wr b T ext (squeeze j d).2 ∧ wr.heap[g]? = some (.cells (splice cur o (squeeze j d).1) e (0, 0)) ∧ Fr [b, g] w wr

/-- m bytes of output lie in block g from the place o on; the sponge has moved on -/
def RetR (b T : Nat) (ext : List Value) (d : Dg) (g o m e : Nat) (cur : Array Value) (w : World) (en : Ending) (w' : World) : Prop :=
  en = .returned (.tuple #[.int .i64 m, .nilIface]) ∧ DgAt w' b T ext (squeeze m d).2 ∧ w'.heap[g]? = some (.cells (splice cur o (squeeze m d).1) e (0, 0)) ∧ Fr [b, g] w w'

theorem info5r : (Try.prog.info? 5).map (fun i => (i.zero, i.size, i.bytes)) = some (some (.int .u8 0), 1, 1) := by kernel_rfl

theorem squeeze_step (d D : Dg) (j k : Nat) (hD : squeeze1 (squeeze j d).2 = D) (hs : d.Sq) (hk0 : 0 < k) (hk : D.n + k ≤ D.rate) :
    squeeze (j + k) d = ((squeeze j d).1 ++ (D.a.drop D.n).take k, { D with n := D.n + k }) := by
  have h1 := (squeeze_sq j d hs).1
  have h2 := squeeze1_sq h1
  rw [hD] at h2
  have h3 : squeeze k (squeeze j d).2 = squeeze k D := by
    obtain ⟨k', rfl⟩ : ∃ k', k = k' + 1 := ⟨k - 1, by omega⟩
    have e1 : squeeze1 D = D := by unfold squeeze1; rw [if_neg (by omega)]
    simp only [squeeze, hD, e1]
  rw [squeeze_add, h3, squeeze_piece k D h2.1 hk h2.2.1]

-- LOOPS
set_option maxRecDepth 100000 in
set_option maxHeartbeats 1600000 in
theorem read_sq (w : World) (b T : Nat) (ext : List Value) (d : Dg) (g o m c e : Nat) (cur : Array Value) (h : DgAt w b T ext d) (hs : d.Sq) (hst : (d.st : Int) = 1) (hg : w.heap[g]? = some (.cells cur e (0, 0))) (hgb : b ≠ g) (hom : o + m ≤ cur.size) (hmc : m ≤ c) (hcm : c ≤ 9223372036854775807) :
    Calls Try.prog 93 #[.pointer (some ⟨b, 0, none⟩), .slice (some ⟨g, o, none⟩) m c] w (RetR b T ext d g o m e cur w) := by
  have q1 := h.cst
  rw [hst] at q1
  have G0 := Lib.hid hg
  have H0 : DgAt w b T ext (squeeze 0 d).2 := h
  have F0 := Fr.refl [b, g] w
  clear hg hst h
  go_enter Try.func93, Try.ntmps93
  go_wp2
  clear q1
  go_loopw [1, 6] (fun sl _ wr => RdRel w b T ext d g o m c e cur sl wr) (fun sl _ _ => slLen sl)
  case atStart => exact ⟨0, _, Nat.zero_le _, rfl, fun _ => rfl, H0, by rw [show (squeeze 0 d).1 = [] from rfl, splice_nil]; exact G0.out, F0⟩
  case round =>
    obtain ⟨j, ad, hj, rfl, had, hD, hG, hf⟩ := hrel
    by_cases hlt : j < m
    · obtain rfl := had hlt
      have hsq := (squeeze_sq j d hs).1
      have hsl := squeeze_length j d
      generalize hSS : (squeeze j d).1 = so at hG hsl
      have HSS := Lib.hid hSS
      have HSL := Lib.hid hsl
      clear hSS hsl
      have hds := squeeze1_sq hsq
      generalize hDD : (squeeze j d).2 = D0 at hD hsq hds
      have HG := Lib.hid hG
      clear hG
      have q2 := hD.cn
      have q3 := hD.crate
      have hle := hsq.le
      have hrl := hsq.rle
      have hpo := hsq.pos
      by_cases hfull : D0.n = D0.rate
      · have hz : ((D0.n : Int) == (D0.rate : Int)) = true := by rw [beq_iff_eq]; omega
        have HDs : Hid (squeeze1 (squeeze j d).2 = permD D0) := by show _ = _; rw [hDD]; unfold squeeze1; rw [if_pos hfull]
        have hn1 : (permD D0).n < (permD D0).rate := hpo
        have hn2 : (permD D0).rate ≤ 168 := hrl
        clear hDD hds hfull
        go_wp2
        go_quiet (fail)
        go_wp2_with fail
        have D6 : DgAt (wr.drewN nq) b T ext D0 := hD
        refine (permute_any _ _ _ _ _ D6).mono ?_
        rintro en w1 ⟨rfl, D1, f7⟩
        have G1 : Hid (w1.heap[g]? = some (.cells (splice cur o so) e (0, 0))) := f7.obj (w := wr.drewN nq) HG.out (by simpa using hgb.symm)
        have f1 : Fr [b, g] w w1 := (hf.drewN nq).trans f7.two
        clear D6 f7 hD HG hf q2 q3 hz hle hrl hpo hsq
        generalize permD D0 = D at D1 HDs hn1 hn2
        go_wp2_with fail
        obtain ⟨k, hk1, hk2, hk3, hk4⟩ : ∃ k : Nat, 0 < k ∧ k ≤ D.rate - D.n ∧ k ≤ m - j ∧ Nat.min (D.rate - D.n) (m - j) = k := by
          by_cases hh : D.rate - D.n ≤ m - j
          · exact ⟨D.rate - D.n, by omega, by omega, by omega, Nat.min_eq_left hh⟩
          · exact ⟨m - j, by omega, by omega, by omega, Nat.min_eq_right (by omega)⟩
        have HK4 := Lib.hid hk4
        clear hk4
        refine wp_region_still_tail 13 (by kernel_rfl) (by kernel_rfl) ?_
        have f2 : Fr [b, g] w w1.drew := f1.drew
        have D2 : DgAt w1.drew b T ext D := D1
        have G2 : Hid (w1.drew.heap[g]? = some (.cells (splice cur o so) e (0, 0))) := G1
        change wpStill Try.prog _ w1.drew (fun a' => wpList Try.prog _ _ _ a' w1.drew) _ _
        generalize w1.drew = w2 at f2 D2 G2 ⊢
        clear D1 G1 f1
        have q2 := D2.cn
        have q3 := D2.crate
        have hb1 : D.n ≤ D.rate := by omega
        have hb2 : D.rate ≤ 200 := by omega
        have hb3 : (D.rate : Int) ≤ 200 := by omega
        have hb4 : ¬ D.n = 200 := by omega
        have hb5 : ¬ 200 = D.n := by omega
        simp only [List.take_succ_cons, List.take_zero, List.drop_succ_cons, List.drop_zero]
        repeat still_step
        refine wpStill_nil ?_
        have hll : ((D.a.drop D.n).take k).length = k := by rw [List.length_take, List.length_drop, D2.1]; omega
        obtain ⟨i0, hi0, _, hz1, _⟩ := info_parts info5r
        have hcp := run_copy_bytes (P := Try.prog) (w := w2) (ty := 3) (tx := 22) (c := c - j) (c2 := 200 - D.n) (b := b) (n := D.n) (o := o + j) Try.underlying22 hi0 hz1 G2.out HK4.out (by rw [splice_size _ _ _ (by rw [HSL.out]; omega)]; omega) hll (fun i hi => by
          rw [D2.byte (by omega)]
          simp [List.getD_eq_getElem?_getD, List.getElem?_take_of_lt hi])
        refine wpList_copy_run (vs := .slice (some ⟨g, o + j, none⟩) (m - j) (c - j)) (vx := .slice (some ⟨b, D.n, none⟩) (D.rate - D.n) (200 - D.n)) rfl _ _ 22 22 rfl (by rfl) (by rfl) hcp ?_
        clear hcp
        have G3 : (w2.setRow g ((splice cur o so).toList.take (o + j) ++ ((D.a.drop D.n).take k).map bv ++ (splice cur o so).toList.drop (o + j + k)).toArray).heap[g]? = some (.cells (splice cur o (so ++ (D.a.drop D.n).take k)) e (0, 0)) := by
          have hss := splice_splice cur o so ((D.a.drop D.n).take k) (by rw [HSL.out, hll]; omega)
          rw [HSL.out] at hss
          rw [setRow_heap _ _ _ _ _ _ G2.out, splice_def _ _ _ _ hll, hss]
        have D3 : DgAt (w2.setRow g ((splice cur o so).toList.take (o + j) ++ ((D.a.drop D.n).take k).map bv ++ (splice cur o so).toList.drop (o + j + k)).toArray) b T ext D := ⟨D2.1, by rw [setRow_other _ _ _ _ hgb]; exact D2.2⟩
        have f3 := f2.setRow g ((splice cur o so).toList.take (o + j) ++ ((D.a.drop D.n).take k).map bv ++ (splice cur o so).toList.drop (o + j + k)).toArray (.inr (by simp))
        generalize w2.setRow g ((splice cur o so).toList.take (o + j) ++ ((D.a.drop D.n).take k).map bv ++ (splice cur o so).toList.drop (o + j + k)).toArray = w3 at G3 D3 f3 ⊢
        have HG3 := Lib.hid G3
        have HLL := Lib.hid hll
        clear G3 hll G2 D2 f2 q2 q3 hi0 hz1
        have q2 := D3.cn
        have q4 := D3.fz 200
        have hsum : D.n + k ≤ 168 := by omega
        have D5 := D3.setN (D.n + k)
        have f5 : Fr [b, g] w (w3.setCell ⟨b, 200, none⟩ (.int .i64 ((D.n + k : Nat) : Int))) := f3.setCell _ _ (.inr (by simp))
        have HG5 : Hid ((w3.setCell ⟨b, 200, none⟩ (.int .i64 ((D.n + k : Nat) : Int))).heap[g]? = some (.cells (splice cur o (so ++ (D.a.drop D.n).take k)) e (0, 0))) := by
          show _ = _
          rw [Below.heap_setCell _ _ _ _ (Ne.symm hgb)]
          exact HG3.out
        rw [Int.natCast_add] at D5 f5 HG5
        by_cases hcap : c - j = k
        · go_wp2_with fail
          refine ⟨⟨j + k, _, by omega, by congr 1 <;> omega, fun _ => by omega, ?_, ?_, f5⟩, by simp [slLen]; omega⟩
          · rw [squeeze_step d D j k HDs.out hs hk1 (by omega)]
            exact D5
          · rw [squeeze_step d D j k HDs.out hs hk1 (by omega), HSS.out]
            exact HG5.out
        · go_wp2_with fail
          refine ⟨⟨j + k, _, by omega, by congr 1 <;> omega, fun _ => by congr 2; omega, ?_, ?_, f5⟩, by simp [slLen]; omega⟩
          · rw [squeeze_step d D j k HDs.out hs hk1 (by omega)]
            exact D5
          · rw [squeeze_step d D j k HDs.out hs hk1 (by omega), HSS.out]
            exact HG5.out
      · have hz : ((D0.n : Int) == (D0.rate : Int)) = false := by rw [beq_eq_false_iff_ne]; omega
        have HDs : Hid (squeeze1 (squeeze j d).2 = D0) := by show _ = _; rw [hDD]; unfold squeeze1; rw [if_neg hfull]
        have hn1 : D0.n < D0.rate := by omega
        have hn2 := hrl
        clear hDD hds hfull
        go_wp2
        go_quiet (fail)
        go_wp2_with fail
        have D1 : DgAt (wr.drewN nq) b T ext D0 := hD
        have G1 : Hid ((wr.drewN nq).heap[g]? = some (.cells (splice cur o so) e (0, 0))) := HG
        have f1 : Fr [b, g] w (wr.drewN nq) := hf.drewN nq
        generalize wr.drewN nq = w1 at D1 G1 f1 ⊢
        clear hD HG hf q2 q3 hz hle hrl hpo hsq
        generalize D0 = D at D1 HDs hn1 hn2
        obtain ⟨k, hk1, hk2, hk3, hk4⟩ : ∃ k : Nat, 0 < k ∧ k ≤ D.rate - D.n ∧ k ≤ m - j ∧ Nat.min (D.rate - D.n) (m - j) = k := by
          by_cases hh : D.rate - D.n ≤ m - j
          · exact ⟨D.rate - D.n, by omega, by omega, by omega, Nat.min_eq_left hh⟩
          · exact ⟨m - j, by omega, by omega, by omega, Nat.min_eq_right (by omega)⟩
        have HK4 := Lib.hid hk4
        clear hk4
        refine wp_region_still_tail 13 (by kernel_rfl) (by kernel_rfl) ?_
        have f2 : Fr [b, g] w w1.drew := f1.drew
        have D2 : DgAt w1.drew b T ext D := D1
        have G2 : Hid (w1.drew.heap[g]? = some (.cells (splice cur o so) e (0, 0))) := G1
        change wpStill Try.prog _ w1.drew (fun a' => wpList Try.prog _ _ _ a' w1.drew) _ _
        generalize w1.drew = w2 at f2 D2 G2 ⊢
        clear D1 G1 f1
        have q2 := D2.cn
        have q3 := D2.crate
        have hb1 : D.n ≤ D.rate := by omega
        have hb2 : D.rate ≤ 200 := by omega
        have hb3 : (D.rate : Int) ≤ 200 := by omega
        have hb4 : ¬ D.n = 200 := by omega
        have hb5 : ¬ 200 = D.n := by omega
        simp only [List.take_succ_cons, List.take_zero, List.drop_succ_cons, List.drop_zero]
        repeat still_step
        refine wpStill_nil ?_
        have hll : ((D.a.drop D.n).take k).length = k := by rw [List.length_take, List.length_drop, D2.1]; omega
        obtain ⟨i0, hi0, _, hz1, _⟩ := info_parts info5r
        have hcp := run_copy_bytes (P := Try.prog) (w := w2) (ty := 3) (tx := 22) (c := c - j) (c2 := 200 - D.n) (b := b) (n := D.n) (o := o + j) Try.underlying22 hi0 hz1 G2.out HK4.out (by rw [splice_size _ _ _ (by rw [HSL.out]; omega)]; omega) hll (fun i hi => by
          rw [D2.byte (by omega)]
          simp [List.getD_eq_getElem?_getD, List.getElem?_take_of_lt hi])
        refine wpList_copy_run (vs := .slice (some ⟨g, o + j, none⟩) (m - j) (c - j)) (vx := .slice (some ⟨b, D.n, none⟩) (D.rate - D.n) (200 - D.n)) rfl _ _ 22 22 rfl (by rfl) (by rfl) hcp ?_
        clear hcp
        have G3 : (w2.setRow g ((splice cur o so).toList.take (o + j) ++ ((D.a.drop D.n).take k).map bv ++ (splice cur o so).toList.drop (o + j + k)).toArray).heap[g]? = some (.cells (splice cur o (so ++ (D.a.drop D.n).take k)) e (0, 0)) := by
          have hss := splice_splice cur o so ((D.a.drop D.n).take k) (by rw [HSL.out, hll]; omega)
          rw [HSL.out] at hss
          rw [setRow_heap _ _ _ _ _ _ G2.out, splice_def _ _ _ _ hll, hss]
        have D3 : DgAt (w2.setRow g ((splice cur o so).toList.take (o + j) ++ ((D.a.drop D.n).take k).map bv ++ (splice cur o so).toList.drop (o + j + k)).toArray) b T ext D := ⟨D2.1, by rw [setRow_other _ _ _ _ hgb]; exact D2.2⟩
        have f3 := f2.setRow g ((splice cur o so).toList.take (o + j) ++ ((D.a.drop D.n).take k).map bv ++ (splice cur o so).toList.drop (o + j + k)).toArray (.inr (by simp))
        generalize w2.setRow g ((splice cur o so).toList.take (o + j) ++ ((D.a.drop D.n).take k).map bv ++ (splice cur o so).toList.drop (o + j + k)).toArray = w3 at G3 D3 f3 ⊢
        have HG3 := Lib.hid G3
        have HLL := Lib.hid hll
        clear G3 hll G2 D2 f2 q2 q3 hi0 hz1
        have q2 := D3.cn
        have q4 := D3.fz 200
        have hsum : D.n + k ≤ 168 := by omega
        have D5 := D3.setN (D.n + k)
        have f5 : Fr [b, g] w (w3.setCell ⟨b, 200, none⟩ (.int .i64 ((D.n + k : Nat) : Int))) := f3.setCell _ _ (.inr (by simp))
        have HG5 : Hid ((w3.setCell ⟨b, 200, none⟩ (.int .i64 ((D.n + k : Nat) : Int))).heap[g]? = some (.cells (splice cur o (so ++ (D.a.drop D.n).take k)) e (0, 0))) := by
          show _ = _
          rw [Below.heap_setCell _ _ _ _ (Ne.symm hgb)]
          exact HG3.out
        rw [Int.natCast_add] at D5 f5 HG5
        by_cases hcap : c - j = k
        · go_wp2_with fail
          refine ⟨⟨j + k, _, by omega, by congr 1 <;> omega, fun _ => by omega, ?_, ?_, f5⟩, by simp [slLen]; omega⟩
          · rw [squeeze_step d D j k HDs.out hs hk1 (by omega)]
            exact D5
          · rw [squeeze_step d D j k HDs.out hs hk1 (by omega), HSS.out]
            exact HG5.out
        · go_wp2_with fail
          refine ⟨⟨j + k, _, by omega, by congr 1 <;> omega, fun _ => by congr 2; omega, ?_, ?_, f5⟩, by simp [slLen]; omega⟩
          · rw [squeeze_step d D j k HDs.out hs hk1 (by omega)]
            exact D5
          · rw [squeeze_step d D j k HDs.out hs hk1 (by omega), HSS.out]
            exact HG5.out
    · go_wp2
      obtain rfl : j = m := by omega
      go_ret2
      exact ⟨rfl, hD, hG, hf⟩

set_option maxRecDepth 100000 in
set_option maxHeartbeats 1600000 in
theorem read_abs (w : World) (b T : Nat) (ext : List Value) (d0 : Dg) (g o m c e : Nat) (cur : Array Value) (h : DgAt w b T ext d0) (hok : d0.Ok) (hst : (d0.st : Int) = 0) (hg : w.heap[g]? = some (.cells cur e (0, 0))) (hgb : b ≠ g) (hom : o + m ≤ cur.size) (hmc : m ≤ c) (hcm : c ≤ 9223372036854775807) :
    Calls Try.prog 93 #[.pointer (some ⟨b, 0, none⟩), .slice (some ⟨g, o, none⟩) m c] w (RetR b T ext (padD d0) g o m e cur w) := by
  have q1 := h.cst
  rw [hst] at q1
  have G0 := Lib.hid hg
  have hs := (padD_sq hok).1
  clear hg hst
  generalize hpd : padD d0 = d at hs ⊢
  have HPD := Lib.hid hpd
  clear hpd
  go_enter Try.func93, Try.ntmps93
  go_wp2_with fail
  refine (padAndPermute_any _ _ _ _ _ h hok.lt hok.le).mono ?_
  rintro en w0 ⟨rfl, H1, F1⟩
  rw [HPD.out] at H1
  have H0 : DgAt w0 b T ext (squeeze 0 d).2 := H1
  have F0 : Fr [b, g] w w0 := F1.two
  replace G0 : Hid (w0.heap[g]? = some (.cells cur e (0, 0))) := F1.obj G0.out (by simpa using hgb.symm)
  clear H1 F1 q1 h
  go_wp2_with fail
  go_loopw [1, 6] (fun sl _ wr => RdRel w b T ext d g o m c e cur sl wr) (fun sl _ _ => slLen sl)
  case atStart => exact ⟨0, _, Nat.zero_le _, rfl, fun _ => rfl, H0, by rw [show (squeeze 0 d).1 = [] from rfl, splice_nil]; exact G0.out, F0⟩
  case round =>
    obtain ⟨j, ad, hj, rfl, had, hD, hG, hf⟩ := hrel
    by_cases hlt : j < m
    · obtain rfl := had hlt
      have hsq := (squeeze_sq j d hs).1
      have hsl := squeeze_length j d
      generalize hSS : (squeeze j d).1 = so at hG hsl
      have HSS := Lib.hid hSS
      have HSL := Lib.hid hsl
      clear hSS hsl
      have hds := squeeze1_sq hsq
      generalize hDD : (squeeze j d).2 = D0 at hD hsq hds
      have HG := Lib.hid hG
      clear hG
      have q2 := hD.cn
      have q3 := hD.crate
      have hle := hsq.le
      have hrl := hsq.rle
      have hpo := hsq.pos
      by_cases hfull : D0.n = D0.rate
      · have hz : ((D0.n : Int) == (D0.rate : Int)) = true := by rw [beq_iff_eq]; omega
        have HDs : Hid (squeeze1 (squeeze j d).2 = permD D0) := by show _ = _; rw [hDD]; unfold squeeze1; rw [if_pos hfull]
        have hn1 : (permD D0).n < (permD D0).rate := hpo
        have hn2 : (permD D0).rate ≤ 168 := hrl
        clear hDD hds hfull
        go_wp2
        go_quiet (fail)
        go_wp2_with fail
        have D6 : DgAt (wr.drewN nq) b T ext D0 := hD
        refine (permute_any _ _ _ _ _ D6).mono ?_
        rintro en w1 ⟨rfl, D1, f7⟩
        have G1 : Hid (w1.heap[g]? = some (.cells (splice cur o so) e (0, 0))) := f7.obj (w := wr.drewN nq) HG.out (by simpa using hgb.symm)
        have f1 : Fr [b, g] w w1 := (hf.drewN nq).trans f7.two
        clear D6 f7 hD HG hf q2 q3 hz hle hrl hpo hsq
        generalize permD D0 = D at D1 HDs hn1 hn2
        go_wp2_with fail
        obtain ⟨k, hk1, hk2, hk3, hk4⟩ : ∃ k : Nat, 0 < k ∧ k ≤ D.rate - D.n ∧ k ≤ m - j ∧ Nat.min (D.rate - D.n) (m - j) = k := by
          by_cases hh : D.rate - D.n ≤ m - j
          · exact ⟨D.rate - D.n, by omega, by omega, by omega, Nat.min_eq_left hh⟩
          · exact ⟨m - j, by omega, by omega, by omega, Nat.min_eq_right (by omega)⟩
        have HK4 := Lib.hid hk4
        clear hk4
        refine wp_region_still_tail 13 (by kernel_rfl) (by kernel_rfl) ?_
        have f2 : Fr [b, g] w w1.drew := f1.drew
        have D2 : DgAt w1.drew b T ext D := D1
        have G2 : Hid (w1.drew.heap[g]? = some (.cells (splice cur o so) e (0, 0))) := G1
        change wpStill Try.prog _ w1.drew (fun a' => wpList Try.prog _ _ _ a' w1.drew) _ _
        generalize w1.drew = w2 at f2 D2 G2 ⊢
        clear D1 G1 f1
        have q2 := D2.cn
        have q3 := D2.crate
        have hb1 : D.n ≤ D.rate := by omega
        have hb2 : D.rate ≤ 200 := by omega
        have hb3 : (D.rate : Int) ≤ 200 := by omega
        have hb4 : ¬ D.n = 200 := by omega
        have hb5 : ¬ 200 = D.n := by omega
        simp only [List.take_succ_cons, List.take_zero, List.drop_succ_cons, List.drop_zero]
        repeat still_step
        refine wpStill_nil ?_
        have hll : ((D.a.drop D.n).take k).length = k := by rw [List.length_take, List.length_drop, D2.1]; omega
        obtain ⟨i0, hi0, _, hz1, _⟩ := info_parts info5r
        have hcp := run_copy_bytes (P := Try.prog) (w := w2) (ty := 3) (tx := 22) (c := c - j) (c2 := 200 - D.n) (b := b) (n := D.n) (o := o + j) Try.underlying22 hi0 hz1 G2.out HK4.out (by rw [splice_size _ _ _ (by rw [HSL.out]; omega)]; omega) hll (fun i hi => by
          rw [D2.byte (by omega)]
          simp [List.getD_eq_getElem?_getD, List.getElem?_take_of_lt hi])
        refine wpList_copy_run (vs := .slice (some ⟨g, o + j, none⟩) (m - j) (c - j)) (vx := .slice (some ⟨b, D.n, none⟩) (D.rate - D.n) (200 - D.n)) rfl _ _ 22 22 rfl (by rfl) (by rfl) hcp ?_
        clear hcp
        have G3 : (w2.setRow g ((splice cur o so).toList.take (o + j) ++ ((D.a.drop D.n).take k).map bv ++ (splice cur o so).toList.drop (o + j + k)).toArray).heap[g]? = some (.cells (splice cur o (so ++ (D.a.drop D.n).take k)) e (0, 0)) := by
          have hss := splice_splice cur o so ((D.a.drop D.n).take k) (by rw [HSL.out, hll]; omega)
          rw [HSL.out] at hss
          rw [setRow_heap _ _ _ _ _ _ G2.out, splice_def _ _ _ _ hll, hss]
        have D3 : DgAt (w2.setRow g ((splice cur o so).toList.take (o + j) ++ ((D.a.drop D.n).take k).map bv ++ (splice cur o so).toList.drop (o + j + k)).toArray) b T ext D := ⟨D2.1, by rw [setRow_other _ _ _ _ hgb]; exact D2.2⟩
        have f3 := f2.setRow g ((splice cur o so).toList.take (o + j) ++ ((D.a.drop D.n).take k).map bv ++ (splice cur o so).toList.drop (o + j + k)).toArray (.inr (by simp))
        generalize w2.setRow g ((splice cur o so).toList.take (o + j) ++ ((D.a.drop D.n).take k).map bv ++ (splice cur o so).toList.drop (o + j + k)).toArray = w3 at G3 D3 f3 ⊢
        have HG3 := Lib.hid G3
        have HLL := Lib.hid hll
        clear G3 hll G2 D2 f2 q2 q3 hi0 hz1
        have q2 := D3.cn
        have q4 := D3.fz 200
        have hsum : D.n + k ≤ 168 := by omega
        have D5 := D3.setN (D.n + k)
        have f5 : Fr [b, g] w (w3.setCell ⟨b, 200, none⟩ (.int .i64 ((D.n + k : Nat) : Int))) := f3.setCell _ _ (.inr (by simp))
        have HG5 : Hid ((w3.setCell ⟨b, 200, none⟩ (.int .i64 ((D.n + k : Nat) : Int))).heap[g]? = some (.cells (splice cur o (so ++ (D.a.drop D.n).take k)) e (0, 0))) := by
          show _ = _
          rw [Below.heap_setCell _ _ _ _ (Ne.symm hgb)]
          exact HG3.out
        rw [Int.natCast_add] at D5 f5 HG5
        by_cases hcap : c - j = k
        · go_wp2_with fail
          refine ⟨⟨j + k, _, by omega, by congr 1 <;> omega, fun _ => by omega, ?_, ?_, f5⟩, by simp [slLen]; omega⟩
          · rw [squeeze_step d D j k HDs.out hs hk1 (by omega)]
            exact D5
          · rw [squeeze_step d D j k HDs.out hs hk1 (by omega), HSS.out]
            exact HG5.out
        · go_wp2_with fail
          refine ⟨⟨j + k, _, by omega, by congr 1 <;> omega, fun _ => by congr 2; omega, ?_, ?_, f5⟩, by simp [slLen]; omega⟩
          · rw [squeeze_step d D j k HDs.out hs hk1 (by omega)]
            exact D5
          · rw [squeeze_step d D j k HDs.out hs hk1 (by omega), HSS.out]
            exact HG5.out
      · have hz : ((D0.n : Int) == (D0.rate : Int)) = false := by rw [beq_eq_false_iff_ne]; omega
        have HDs : Hid (squeeze1 (squeeze j d).2 = D0) := by show _ = _; rw [hDD]; unfold squeeze1; rw [if_neg hfull]
        have hn1 : D0.n < D0.rate := by omega
        have hn2 := hrl
        clear hDD hds hfull
        go_wp2
        go_quiet (fail)
        go_wp2_with fail
        have D1 : DgAt (wr.drewN nq) b T ext D0 := hD
        have G1 : Hid ((wr.drewN nq).heap[g]? = some (.cells (splice cur o so) e (0, 0))) := HG
        have f1 : Fr [b, g] w (wr.drewN nq) := hf.drewN nq
        generalize wr.drewN nq = w1 at D1 G1 f1 ⊢
        clear hD HG hf q2 q3 hz hle hrl hpo hsq
        generalize D0 = D at D1 HDs hn1 hn2
        obtain ⟨k, hk1, hk2, hk3, hk4⟩ : ∃ k : Nat, 0 < k ∧ k ≤ D.rate - D.n ∧ k ≤ m - j ∧ Nat.min (D.rate - D.n) (m - j) = k := by
          by_cases hh : D.rate - D.n ≤ m - j
          · exact ⟨D.rate - D.n, by omega, by omega, by omega, Nat.min_eq_left hh⟩
          · exact ⟨m - j, by omega, by omega, by omega, Nat.min_eq_right (by omega)⟩
        have HK4 := Lib.hid hk4
        clear hk4
        refine wp_region_still_tail 13 (by kernel_rfl) (by kernel_rfl) ?_
        have f2 : Fr [b, g] w w1.drew := f1.drew
        have D2 : DgAt w1.drew b T ext D := D1
        have G2 : Hid (w1.drew.heap[g]? = some (.cells (splice cur o so) e (0, 0))) := G1
        change wpStill Try.prog _ w1.drew (fun a' => wpList Try.prog _ _ _ a' w1.drew) _ _
        generalize w1.drew = w2 at f2 D2 G2 ⊢
        clear D1 G1 f1
        have q2 := D2.cn
        have q3 := D2.crate
        have hb1 : D.n ≤ D.rate := by omega
        have hb2 : D.rate ≤ 200 := by omega
        have hb3 : (D.rate : Int) ≤ 200 := by omega
        have hb4 : ¬ D.n = 200 := by omega
        have hb5 : ¬ 200 = D.n := by omega
        simp only [List.take_succ_cons, List.take_zero, List.drop_succ_cons, List.drop_zero]
        repeat still_step
        refine wpStill_nil ?_
        have hll : ((D.a.drop D.n).take k).length = k := by rw [List.length_take, List.length_drop, D2.1]; omega
        obtain ⟨i0, hi0, _, hz1, _⟩ := info_parts info5r
        have hcp := run_copy_bytes (P := Try.prog) (w := w2) (ty := 3) (tx := 22) (c := c - j) (c2 := 200 - D.n) (b := b) (n := D.n) (o := o + j) Try.underlying22 hi0 hz1 G2.out HK4.out (by rw [splice_size _ _ _ (by rw [HSL.out]; omega)]; omega) hll (fun i hi => by
          rw [D2.byte (by omega)]
          simp [List.getD_eq_getElem?_getD, List.getElem?_take_of_lt hi])
        refine wpList_copy_run (vs := .slice (some ⟨g, o + j, none⟩) (m - j) (c - j)) (vx := .slice (some ⟨b, D.n, none⟩) (D.rate - D.n) (200 - D.n)) rfl _ _ 22 22 rfl (by rfl) (by rfl) hcp ?_
        clear hcp
        have G3 : (w2.setRow g ((splice cur o so).toList.take (o + j) ++ ((D.a.drop D.n).take k).map bv ++ (splice cur o so).toList.drop (o + j + k)).toArray).heap[g]? = some (.cells (splice cur o (so ++ (D.a.drop D.n).take k)) e (0, 0)) := by
          have hss := splice_splice cur o so ((D.a.drop D.n).take k) (by rw [HSL.out, hll]; omega)
          rw [HSL.out] at hss
          rw [setRow_heap _ _ _ _ _ _ G2.out, splice_def _ _ _ _ hll, hss]
        have D3 : DgAt (w2.setRow g ((splice cur o so).toList.take (o + j) ++ ((D.a.drop D.n).take k).map bv ++ (splice cur o so).toList.drop (o + j + k)).toArray) b T ext D := ⟨D2.1, by rw [setRow_other _ _ _ _ hgb]; exact D2.2⟩
        have f3 := f2.setRow g ((splice cur o so).toList.take (o + j) ++ ((D.a.drop D.n).take k).map bv ++ (splice cur o so).toList.drop (o + j + k)).toArray (.inr (by simp))
        generalize w2.setRow g ((splice cur o so).toList.take (o + j) ++ ((D.a.drop D.n).take k).map bv ++ (splice cur o so).toList.drop (o + j + k)).toArray = w3 at G3 D3 f3 ⊢
        have HG3 := Lib.hid G3
        have HLL := Lib.hid hll
        clear G3 hll G2 D2 f2 q2 q3 hi0 hz1
        have q2 := D3.cn
        have q4 := D3.fz 200
        have hsum : D.n + k ≤ 168 := by omega
        have D5 := D3.setN (D.n + k)
        have f5 : Fr [b, g] w (w3.setCell ⟨b, 200, none⟩ (.int .i64 ((D.n + k : Nat) : Int))) := f3.setCell _ _ (.inr (by simp))
        have HG5 : Hid ((w3.setCell ⟨b, 200, none⟩ (.int .i64 ((D.n + k : Nat) : Int))).heap[g]? = some (.cells (splice cur o (so ++ (D.a.drop D.n).take k)) e (0, 0))) := by
          show _ = _
          rw [Below.heap_setCell _ _ _ _ (Ne.symm hgb)]
          exact HG3.out
        rw [Int.natCast_add] at D5 f5 HG5
        by_cases hcap : c - j = k
        · go_wp2_with fail
          refine ⟨⟨j + k, _, by omega, by congr 1 <;> omega, fun _ => by omega, ?_, ?_, f5⟩, by simp [slLen]; omega⟩
          · rw [squeeze_step d D j k HDs.out hs hk1 (by omega)]
            exact D5
          · rw [squeeze_step d D j k HDs.out hs hk1 (by omega), HSS.out]
            exact HG5.out
        · go_wp2_with fail
          refine ⟨⟨j + k, _, by omega, by congr 1 <;> omega, fun _ => by congr 2; omega, ?_, ?_, f5⟩, by simp [slLen]; omega⟩
          · rw [squeeze_step d D j k HDs.out hs hk1 (by omega)]
            exact D5
          · rw [squeeze_step d D j k HDs.out hs hk1 (by omega), HSS.out]
            exact HG5.out
    · go_wp2
      obtain rfl : j = m := by omega
      go_ret2
      exact ⟨rfl, hD, hG, hf⟩
end Go.Proofs.Ytkijnpjefccepaa
end

section
namespace Go.Sha
open Go.RowKit
/-- a new sponge -/
def newD (rate out : Nat) (ds : UInt8) : Dg := { a := List.replicate 200 0, n := 0, rate := rate, ds := ds, out := out, st := 0 }
theorem newD_ok (rate out : Nat) (ds : UInt8) (h : 0 < rate) (h2 : rate ≤ 168) : (newD rate out ds).Ok := ⟨List.length_replicate, h, h2⟩
theorem newD_at (w : World) (T rate out : Nat) (ds : UInt8) (ext : List Value) : DgAt (w.alloc (.cells ((newD rate out ds).cells ++ ext).toArray T)) w.heap.size T ext (newD rate out ds) :=
  ⟨List.length_replicate, Go.heap_alloc_new w _⟩
/-- a new sponge lies in a new block -/
def RetN (T : Nat) (ext : List Value) (d : Dg) (w : World) (e : Ending) (w' : World) : Prop := e = .returned (.pointer (some ⟨w.heap.size, 0, none⟩)) ∧ DgAt w' w.heap.size T ext d ∧ Fr [] w w' ∧ w'.heap.size = w.heap.size + 1
end Go.Sha
namespace Go.Proofs.Ytkijnpjefccepaa
open Go.ChangeShapes Go.WideShapes Go.ChangeAt Go.RowKit Go.Sha

set_option maxRecDepth 100000 in
theorem NewShake128_any (w : World) : Calls Try.prog 55 #[] w (RetN 70 [.slice none 0 0] (newD 168 32 31) w) := by
  have key : Calls Try.prog 55 #[] w fun e w' => e = .returned (.pointer (some ⟨w.heap.size, 0, none⟩)) ∧ w' = w.alloc (.cells ((newD 168 32 31).cells ++ [Value.slice none 0 0]).toArray 70) := by
    go_enter Try.func55, Try.ntmps55
    go_wp2
    go_ret
    exact ⟨rfl, by kernel_rfl⟩
  refine key.mono fun e w' ⟨h1, h2⟩ => ?_
  subst h2
  exact ⟨h1, newD_at w _ _ _ _ [.slice none 0 0], (Fr.refl _ _).alloc _, by simp⟩

set_option maxRecDepth 100000 in
theorem NewShake256_any (w : World) : Calls Try.prog 56 #[] w (RetN 70 [.slice none 0 0] (newD 136 64 31) w) := by
  have key : Calls Try.prog 56 #[] w fun e w' => e = .returned (.pointer (some ⟨w.heap.size, 0, none⟩)) ∧ w' = w.alloc (.cells ((newD 136 64 31).cells ++ [Value.slice none 0 0]).toArray 70) := by
    go_enter Try.func56, Try.ntmps56
    go_wp2
    go_ret
    exact ⟨rfl, by kernel_rfl⟩
  refine key.mono fun e w' ⟨h1, h2⟩ => ?_
  subst h2
  exact ⟨h1, newD_at w _ _ _ _ [.slice none 0 0], (Fr.refl _ _).alloc _, by simp⟩

theorem write_any (w : World) (b T : Nat) (ext : List Value) (d : Dg) (ap : Option Addr) (np cp : Nat) (p : Bs) (h : DgAt w b T ext d) (hd : d.Ok) (hst : d.st = 0) (hp : Sl w ap np cp p) (hne : ∀ x, ap = some x → np ≠ 0 → x.block ≠ b) :
    Calls Try.prog 96 #[.pointer (some ⟨b, 0, none⟩), .slice ap np cp] w (RetD (.tuple #[.int .i64 np, .nilIface]) b T ext (absorb d p) w) := by
  go_enter Try.func96, Try.ntmps96
  go_wp2_with fail
  refine (writeGeneric_any w b T ext d ap np cp p h hd hst hp hne).mono ?_
  rintro e w' ⟨rfl, h1, h2⟩
  go_wp2_with fail
  go_ret2
  exact ⟨rfl, h1, h2⟩

theorem Write_any (w : World) (b T : Nat) (ext : List Value) (d : Dg) (ap : Option Addr) (np cp : Nat) (p : Bs) (h : DgAt w b T ext d) (hd : d.Ok) (hst : d.st = 0) (hp : Sl w ap np cp p) (hne : ∀ x, ap = some x → np ≠ 0 → x.block ≠ b) :
    Calls Try.prog 89 #[.pointer (some ⟨b, 0, none⟩), .slice ap np cp] w (RetD (.tuple #[.int .i64 np, .nilIface]) b T ext (absorb d p) w) := by
  go_enter Try.func89, Try.ntmps89
  go_wp2_with fail
  refine (write_any w b T ext d ap np cp p h hd hst hp hne).mono ?_
  rintro e w' ⟨rfl, h1, h2⟩
  go_wp2_with fail
  go_ret2
  exact ⟨rfl, h1, h2⟩

theorem ShakeWrite_any (w : World) (b T : Nat) (ext : List Value) (d : Dg) (ap : Option Addr) (np cp : Nat) (p : Bs) (h : DgAt w b T ext d) (hd : d.Ok) (hst : d.st = 0) (hp : Sl w ap np cp p) (hne : ∀ x, ap = some x → np ≠ 0 → x.block ≠ b) :
    Calls Try.prog 72 #[.pointer (some ⟨b, 0, none⟩), .slice ap np cp] w (RetD (.tuple #[.int .i64 np, .nilIface]) b T ext (absorb d p) w) := by
  go_enter Try.func72, Try.ntmps72
  go_wp2_with fail
  refine (Write_any w b T ext d ap np cp p h hd hst hp hne).mono ?_
  rintro e w' ⟨rfl, h1, h2⟩
  go_wp2_with fail
  go_ret2
  exact ⟨rfl, h1, h2⟩

theorem getIndicator_run (w : World) : (callFunc 91 #[]).run Try.prog w = .ok (.value (.int .u8 0)) w := by
  rw [run_callFunc_ext Try.func91 #[] (pure (.int .u8 0)) (by kernel_rfl) (by kernel_rfl) (by kernel_rfl) (by kernel_rfl)]
  rfl
theorem setIndicator_run (v : Value) (w : World) : (callFunc 92 #[v]).run Try.prog w = .ok (.value (.tuple #[])) w := by
  rw [run_callFunc_ext Try.func92 #[v] (pure (.tuple #[])) (by kernel_rfl) (by kernel_rfl) (by kernel_rfl) (by kernel_rfl)]
  rfl
theorem recordApproved_any (w : World) : Calls Try.prog 74 #[] w fun e w' => e = .returned (.tuple #[]) ∧ w = w' := by
  have h1 := getIndicator_run
  have h2 := setIndicator_run
  go_enter Try.func74, Try.ntmps74
  go_wp2
  go_end0
  exact ⟨rfl, rfl⟩

theorem dread_abs (w : World) (b T : Nat) (ext : List Value) (d : Dg) (g o m c e : Nat) (cur : Array Value) (h : DgAt w b T ext d) (hok : d.Ok) (hst : (d.st : Int) = 0) (hg : w.heap[g]? = some (.cells cur e (0, 0))) (hgb : b ≠ g) (hom : o + m ≤ cur.size) (hmc : m ≤ c) (hcm : c ≤ 9223372036854775807) :
    Calls Try.prog 75 #[.pointer (some ⟨b, 0, none⟩), .slice (some ⟨g, o, none⟩) m c] w (RetR b T ext (padD d) g o m e cur w) := by
  have HG := Lib.hid hg
  have HS := Lib.hid hst
  clear hg hst
  go_enter Try.func75, Try.ntmps75
  go_wp2_with fail
  refine (read_abs w b T ext d g o m c e cur h hok HS.out HG.out hgb hom hmc hcm).mono ?_
  rintro en w' ⟨rfl, h1, h2, h3⟩
  have H2 := Lib.hid h2
  clear h2
  go_wp2_with fail
  go_ret2
  exact ⟨rfl, h1, H2.out, h3⟩

theorem ShakeRead_abs (w : World) (b T : Nat) (ext : List Value) (d : Dg) (g o m c e : Nat) (cur : Array Value) (h : DgAt w b T ext d) (hok : d.Ok) (hst : (d.st : Int) = 0) (hg : w.heap[g]? = some (.cells cur e (0, 0))) (hgb : b ≠ g) (hom : o + m ≤ cur.size) (hmc : m ≤ c) (hcm : c ≤ 9223372036854775807) :
    Calls Try.prog 62 #[.pointer (some ⟨b, 0, none⟩), .slice (some ⟨g, o, none⟩) m c] w (RetR b T ext (padD d) g o m e cur w) := by
  have HG := Lib.hid hg
  have HS := Lib.hid hst
  clear hg hst
  go_enter Try.func62, Try.ntmps62
  go_wp2_with fail
  refine (recordApproved_any w).mono ?_
  rintro en w' ⟨rfl, rfl⟩
  go_wp2_with fail
  refine (dread_abs w b T ext d g o m c e cur h hok HS.out HG.out hgb hom hmc hcm).mono ?_
  rintro en w' ⟨rfl, h1, h2, h3⟩
  have H2 := Lib.hid h2
  clear h2
  go_wp2_with fail
  go_ret2
  exact ⟨rfl, h1, H2.out, h3⟩

theorem dread_sq (w : World) (b T : Nat) (ext : List Value) (d : Dg) (g o m c e : Nat) (cur : Array Value) (h : DgAt w b T ext d) (hok : d.Sq) (hst : (d.st : Int) = 1) (hg : w.heap[g]? = some (.cells cur e (0, 0))) (hgb : b ≠ g) (hom : o + m ≤ cur.size) (hmc : m ≤ c) (hcm : c ≤ 9223372036854775807) :
    Calls Try.prog 75 #[.pointer (some ⟨b, 0, none⟩), .slice (some ⟨g, o, none⟩) m c] w (RetR b T ext (d) g o m e cur w) := by
  have HG := Lib.hid hg
  have HS := Lib.hid hst
  clear hg hst
  go_enter Try.func75, Try.ntmps75
  go_wp2_with fail
  refine (read_sq w b T ext d g o m c e cur h hok HS.out HG.out hgb hom hmc hcm).mono ?_
  rintro en w' ⟨rfl, h1, h2, h3⟩
  have H2 := Lib.hid h2
  clear h2
  go_wp2_with fail
  go_ret2
  exact ⟨rfl, h1, H2.out, h3⟩

theorem ShakeRead_sq (w : World) (b T : Nat) (ext : List Value) (d : Dg) (g o m c e : Nat) (cur : Array Value) (h : DgAt w b T ext d) (hok : d.Sq) (hst : (d.st : Int) = 1) (hg : w.heap[g]? = some (.cells cur e (0, 0))) (hgb : b ≠ g) (hom : o + m ≤ cur.size) (hmc : m ≤ c) (hcm : c ≤ 9223372036854775807) :
    Calls Try.prog 62 #[.pointer (some ⟨b, 0, none⟩), .slice (some ⟨g, o, none⟩) m c] w (RetR b T ext (d) g o m e cur w) := by
  have HG := Lib.hid hg
  have HS := Lib.hid hst
  clear hg hst
  go_enter Try.func62, Try.ntmps62
  go_wp2_with fail
  refine (recordApproved_any w).mono ?_
  rintro en w' ⟨rfl, rfl⟩
  go_wp2_with fail
  refine (dread_sq w b T ext d g o m c e cur h hok HS.out HG.out hgb hom hmc hcm).mono ?_
  rintro en w' ⟨rfl, h1, h2, h3⟩
  have H2 := Lib.hid h2
  clear h2
  go_wp2_with fail
  go_ret2
  exact ⟨rfl, h1, H2.out, h3⟩

end Go.Proofs.Ytkijnpjefccepaa
end

section
namespace Go.Sha
open Go.RowKit
/-- the first bytes of output for bytes that were written -/
def xof (rate out : Nat) (ds : UInt8) (data : Bs) (k : Nat) : Bs := (squeeze k (padD (absorb (newD rate out ds) data))).1
theorem xof_length (rate out : Nat) (ds : UInt8) (data : Bs) (k : Nat) : (xof rate out ds data k).length = k := squeeze_length _ _
theorem Ow.of_splice {w : World} {g e c : Nat} {cur : Array Value} {l : Bs} (base : Nat) (hb : base ≤ g) (h : w.heap[g]? = some (.cells (splice cur 0 l) e (0, 0))) (hc : cur.size = c) (hl : l.length ≤ c) (hm : c ≤ maxLen) : Ow w base e (some ⟨g, 0, none⟩) c l := by
  refine ⟨by simp, .inr ⟨g, c, _, rfl, hb, h, hl, hm, by rw [splice_size _ _ _ (by omega)]; omega, ?_⟩⟩
  simp [splice]
end Go.Sha
namespace Go.Proofs.Ytkijnpjefccepaa
open Go.ChangeShapes Go.WideShapes Go.ChangeAt Go.RowKit Go.Sha

/-- L bytes of output in a slice of one's own -/
def RetX (base L : Nat) (l : Bs) (S : List Nat) (w : World) (e : Ending) (w' : World) : Prop := ∃ a c, e = .returned (.slice a L c) ∧ Ow w' base 5 a c l ∧ Fr S w w'

end Go.Proofs.Ytkijnpjefccepaa
end
