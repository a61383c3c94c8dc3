/- Laws on memory that the proofs of this seat share: append to a row of one's own from whatever source; slices that read as bytes as a source. No condition. -/
import Derived.Test.YtjgdbamlaajkmaaBase
import Derived.Deep.AppendSrc
import Derived.Laws.AppendOwnNone
namespace Go.Sha
open Go.RowKit

section
variable {P : Program} (w : World)
/-- append, to a row of one's own, of whatever the source yields -/
theorem run_append_own_src (base : Nat) (t tx ty e : TypeId) (i : TypeInfo) (z : Value) (size bytes : Nat) (ht : P.underlying t = some (.slice e)) (hi : P.info? e = some i) (hz : i.zero = some z)
    (hsize : i.size = size) (hby : i.bytes = bytes) (hzs : z.cells.size = size)
    (a : Option Addr) (n c : Nat) (xs : List Value) (hown : w.ownsRow base e size (.slice a n c) n xs)
    (x : Value) (m : Nat) (news : List Value) (hs : Src P size tx x m news w)
    (h63 : n + m ≤ maxLen) (hbytes : (n + m) * bytes ≤ 140737488355328) (hbase : base ≤ w.heap.size) :
    ∃ a' c' w', (Builtin.append_ #[t, tx] ty #[.slice a n c, x]).run P w = .ok (.slice a' (n + m) c') w' ∧ w'.ownsRow base e size (.slice a' (n + m) c') (n + m) (xs ++ news) ∧ w.grownBy w' (Value.slice a n c).ownBlock ∧ (a' = a ∨ a' = some ⟨w.heap.size, 0, none⟩) := by
  subst hsize
  subst hby
  have hsmall : n + m ≤ 9223372036854775807 := by simp only [maxLen] at h63; omega
  have hlen : (xs ++ news).length = (n + m) * i.size := by rw [List.length_append, hown.1, hs.newsLen, Nat.add_mul]
  have grown : ∀ (old : Nat), old < n + m → ∀ (row : Option Nat),
      (w.drew.alloc (.cells ((xs ++ news).toArray ++ Builtin.zeroCells z.cells (grownCap w (n + m) old e - (n + m))) e)).ownsRow base e i.size
        (.slice (some ⟨w.heap.size, 0, none⟩) (n + m) (grownCap w (n + m) old e)) (n + m) (xs ++ news) ∧
      w.grownBy (w.drew.alloc (.cells ((xs ++ news).toArray ++ Builtin.zeroCells z.cells (grownCap w (n + m) old e - (n + m))) e)) row := by
    intro old ho row
    have hge := grownCap_ge w (n + m) old e
    have hcm : grownCap w (n + m) old e ≤ maxLen := grownCap_le_maxLen w (n + m) old e h63
    refine ⟨⟨hlen, .inr ⟨w.heap.size, _, _, rfl, hbase, heap_alloc_new w.drew _, hge, hcm, ?_, ?_⟩⟩, ⟨rfl, rfl, rfl, by simp, fun k hk _ => Below.heap_alloc w.drew _ k hk⟩⟩
    · simp only [Array.size_append, List.size_toArray, size_zeroCells, hzs, hlen, ← Nat.add_mul]
      congr 1
      omega
    · simp only [Array.toList_append]
      rw [← hlen]
      exact List.take_left
  rcases hown.2 with ⟨hv, rfl⟩ | ⟨g, cap, cur, hv, hbg, hg, hnc, hcm, hcs, htake⟩
  · simp only [Value.slice.injEq] at hv
    obtain ⟨rfl, _, rfl⟩ := hv
    have hx : xs = [] := List.eq_nil_of_length_eq_zero (by simpa using hown.1)
    subst hx
    by_cases hm : m = 0
    · subst hm
      have hn : news = [] := List.eq_nil_of_length_eq_zero (by simpa using hs.newsLen)
      subst hn
      refine ⟨none, 0, w, ?_, World.ownsRow_nil w base e i.size, ⟨rfl, rfl, rfl, Nat.le_refl _, fun _ _ _ => rfl⟩, .inl rfl⟩
      rcases hs.kind with ⟨e', hk⟩ | hk <;> simp [Builtin.append_, run_underlying ht, run_underlying hk, sizeOf, typeInfo, hi, hs.len, hs.cells]
    · have hr := run_append_grow_src (P := P) w t tx ty e i z ht hi hz none 0 0 [] (run_firstCells_none w.drew i.size 0 0 0) x m news hs (by omega) (by omega) (growslice_fits (by omega) hbytes)
      have hgr := grown 0 (by omega) (Value.ownBlock (.slice none 0 0))
      exact ⟨_, _, _, hr, hgr.1, hgr.2, .inr rfl⟩
  · simp only [Value.slice.injEq] at hv
    obtain ⟨rfl, _, rfl⟩ := hv
    by_cases hroom : n + m ≤ c
    · have hfit : n * i.size + news.length ≤ cur.size := by rw [hs.newsLen, hcs, ← Nat.add_mul]; exact Nat.mul_le_mul_right _ hroom
      have hst := run_storeCells_at P g (n * i.size) e news 0 cur w hg (by simpa using hfit) hs.one
      simp only [Nat.add_zero] at hst
      have hr : (Builtin.append_ #[t, tx] ty #[.slice (some ⟨g, 0, none⟩) n c, x]).run P w = .ok (.slice (some ⟨g, 0, none⟩) (n + m) c) (w.setRow g (cur.toList.take (n * i.size) ++ news ++ cur.toList.drop (n * i.size + news.length)).toArray) := by
        rcases hs.kind with ⟨e', hk⟩ | hk <;> simp [Builtin.append_, run_underlying ht, run_underlying hk, sizeOf, typeInfo, hi, hs.len, hroom, hs.cells, Addr.add_lit, hst]
      refine ⟨some ⟨g, 0, none⟩, c, _, hr, ⟨hlen, .inr ⟨g, c, _, rfl, hbg, setRow_heap w g cur _ e _ hg, hroom, hcm, ?_, ?_⟩⟩, ⟨rfl, rfl, rfl, by simp, fun k _ hk => setRow_other w g k _ (fun e => hk (by simp [Value.ownBlock, e]))⟩, .inl rfl⟩
      · simp only [List.size_toArray, List.length_append, List.length_take, List.length_drop, Array.length_toList]
        omega
      · rw [htake, ← hlen]
        exact List.take_left
    · have holds : ∀ j u, xs[j]? = some u → w.cell? ((⟨g, 0, none⟩ : Addr).add j) = some u := hown.cells (g := g) rfl
      have hold := run_firstCells_some (P := P) w.drew i.size n ⟨g, 0, none⟩ n c xs hown.1 (by simpa using holds)
      have hr := run_append_grow_src (P := P) w t tx ty e i z ht hi hz (some ⟨g, 0, none⟩) n c xs hold x m news hs (by omega) (by omega) (growslice_fits (by omega) hbytes)
      have hgr := grown c (by omega) (Value.ownBlock (.slice (some ⟨g, 0, none⟩) n c))
      exact ⟨_, _, _, hr, hgr.1, hgr.2, .inr rfl⟩

theorem wp_append_srcN {o : Oper} {a : Act} {K : Act → World → Prop} {Q : Exit → Act → World → Prop} (s x : Operand) (t tx : TypeId)
    (ho : o.op = .call { callee := .builtin .append, args := #[s, x], argTypes := #[t, tx] })
    (base : Nat) (e : TypeId) (i : TypeInfo) (z : Value) (size bytes : Nat) (ht : P.underlying t = some (.slice e)) (hi : P.info? e = some i) (hz : i.zero = some z)
    (hsize : i.size = size) (hby : i.bytes = bytes) (hzs : z.cells.size = size)
    (ad : Option Addr) (n c : Nat) (xs : List Value) (hs : a.eval s = .slice ad n c) (hown : w.ownsRow base e size (.slice ad n c) n xs)
    (xv : Value) (m : Nat) (news : List Value) (hx : a.eval x = xv) (hsrc : Src P size tx xv m news w)
    (h63 : n + m ≤ maxLen) (hbytes : (n + m) * bytes ≤ 140737488355328) (hbase : base ≤ w.heap.size)
    (h : ∀ a' c' w', w'.ownsRow base e size (.slice a' (n + m) c') (n + m) (xs ++ news) → w.grownBy w' (Value.slice ad n c).ownBlock → (a' = ad ∨ a' = some ⟨w.heap.size, 0, none⟩) → K (a.put o.dst (.slice a' (n + m) c')) w') : o.wp P a w K Q := by
  obtain ⟨a', c', w', hr, h2, h3, h4⟩ := run_append_own_src (P := P) w base t tx o.type e i z size bytes ht hi hz hsize hby hzs ad n c xs hown xv m news hsrc h63 hbytes hbase
  unfold Oper.wp execOp
  simp only [ho, resolve, invoke, builtin, Sem.run_bind, Sem.run_pure, Result.andThen_ok, List.map_toArray, List.map_cons, List.map_nil, hs, hx, hr]
  exact h a' c' w' h2 h3 h4

theorem wp_append_src {o : Oper} {a : Act} {K : Act → World → Prop} {Q : Exit → Act → World → Prop} (s x : Operand) (t tx : TypeId)
    (ho : o.op = .call { callee := .builtin .append, args := #[s, x], argTypes := #[t, tx] })
    (base : Nat) (e : TypeId) (i : TypeInfo) (z : Value) (size bytes : Nat) (ht : P.underlying t = some (.slice e)) (hi : P.info? e = some i) (hz : i.zero = some z)
    (hsize : i.size = size) (hby : i.bytes = bytes) (hzs : z.cells.size = size)
    (ad : Option Addr) (n c : Nat) (xs : List Value) (hs : a.eval s = .slice ad n c) (hown : w.ownsRow base e size (.slice ad n c) n xs)
    (xv : Value) (m : Nat) (news : List Value) (hx : a.eval x = xv) (hsrc : Src P size tx xv m news w)
    (h63 : n + m ≤ maxLen) (hbytes : (n + m) * bytes ≤ 140737488355328) (hbase : base ≤ w.heap.size)
    (h : ∀ a' c' w', w'.ownsRow base e size (.slice a' (n + m) c') (n + m) (xs ++ news) → w.grownBy w' (Value.slice ad n c).ownBlock → K (a.put o.dst (.slice a' (n + m) c')) w') : o.wp P a w K Q :=
  wp_append_srcN w s x t tx ho base e i z size bytes ht hi hz hsize hby hzs ad n c xs hs hown xv m news hx hsrc h63 hbytes hbase fun a' c' w' h2 h3 _ => h a' c' w' h2 h3

/-- append, to a row of one's own, of whatever the source yields: as an operation's law -/
theorem wpList_append_src {ops : Array Oper} {rest : List Oper} {o : Oper} {a : Act} {Q : Exit → Act → World → Prop} (hgd : o.guard = none) (s x : Operand) (t tx : TypeId)
    (ho : o.op = .call { callee := .builtin .append, args := #[s, x], argTypes := #[t, tx] })
    (base : Nat) (e : TypeId) (i : TypeInfo) (z : Value) (size bytes : Nat) (ht : P.underlying t = some (.slice e)) (hi : P.info? e = some i) (hz : i.zero = some z)
    (hsize : i.size = size) (hby : i.bytes = bytes) (hzs : z.cells.size = size)
    (ad : Option Addr) (n c : Nat) (xs : List Value) (hs : a.eval s = .slice ad n c) (hown : w.ownsRow base e size (.slice ad n c) n xs)
    (xv : Value) (m : Nat) (news : List Value) (hx : a.eval x = xv) (hsrc : Src P size tx xv m news w)
    (h63 : n + m ≤ maxLen) (hbytes : (n + m) * bytes ≤ 140737488355328) (hbase : base ≤ w.heap.size)
    (h : ∀ a' c' w', w'.ownsRow base e size (.slice a' (n + m) c') (n + m) (xs ++ news) → w.grownBy w' (Value.slice ad n c).ownBlock → wpList P ops Q rest (a.put o.dst (.slice a' (n + m) c')) w') : wpList P ops Q (o :: rest) a w :=
  wpList_plain hgd fun _ hK => wp_append_src w s x t tx ho base e i z size bytes ht hi hz hsize hby hzs ad n c xs hs hown xv m news hx hsrc h63 hbytes hbase fun a' c' w' h2 h3 => hK _ _ (h a' c' w' h2 h3)

theorem wpList_append_srcN {ops : Array Oper} {rest : List Oper} {o : Oper} {a : Act} {Q : Exit → Act → World → Prop} (hgd : o.guard = none) (s x : Operand) (t tx : TypeId)
    (ho : o.op = .call { callee := .builtin .append, args := #[s, x], argTypes := #[t, tx] })
    (base : Nat) (e : TypeId) (i : TypeInfo) (z : Value) (size bytes : Nat) (ht : P.underlying t = some (.slice e)) (hi : P.info? e = some i) (hz : i.zero = some z)
    (hsize : i.size = size) (hby : i.bytes = bytes) (hzs : z.cells.size = size)
    (ad : Option Addr) (n c : Nat) (xs : List Value) (hs : a.eval s = .slice ad n c) (hown : w.ownsRow base e size (.slice ad n c) n xs)
    (xv : Value) (m : Nat) (news : List Value) (hx : a.eval x = xv) (hsrc : Src P size tx xv m news w)
    (h63 : n + m ≤ maxLen) (hbytes : (n + m) * bytes ≤ 140737488355328) (hbase : base ≤ w.heap.size)
    (h : ∀ a' c' w', w'.ownsRow base e size (.slice a' (n + m) c') (n + m) (xs ++ news) → w.grownBy w' (Value.slice ad n c).ownBlock → (a' = ad ∨ a' = some ⟨w.heap.size, 0, none⟩) → wpList P ops Q rest (a.put o.dst (.slice a' (n + m) c')) w') : wpList P ops Q (o :: rest) a w :=
  wpList_plain hgd fun _ hK => wp_append_srcN w s x t tx ho base e i z size bytes ht hi hz hsize hby hzs ad n c xs hs hown xv m news hx hsrc h63 hbytes hbase fun a' c' w' h2 h3 h4 => hK _ _ (h a' c' w' h2 h3 h4)

/-- the same, as a step of a region that draws its order -/
theorem step_append_src {ops : Array Oper} {o : Oper} {a : Act} {K : Act → World → Prop} {Q : Exit → Act → World → Prop} {E : Prop} (hgd : o.guard = none) (s x : Operand) (t tx : TypeId)
    (ho : o.op = .call { callee := .builtin .append, args := #[s, x], argTypes := #[t, tx] })
    (base : Nat) (e : TypeId) (i : TypeInfo) (z : Value) (size bytes : Nat) (ht : P.underlying t = some (.slice e)) (hi : P.info? e = some i) (hz : i.zero = some z)
    (hsize : i.size = size) (hby : i.bytes = bytes) (hzs : z.cells.size = size)
    (ad : Option Addr) (n c : Nat) (xs : List Value) (hs : a.eval s = .slice ad n c) (hown : w.ownsRow base e size (.slice ad n c) n xs)
    (xv : Value) (m : Nat) (news : List Value) (hx : a.eval x = xv) (hsrc : Src P size tx xv m news w)
    (h63 : n + m ≤ maxLen) (hbytes : (n + m) * bytes ≤ 140737488355328) (hbase : base ≤ w.heap.size)
    (h : ∀ a' c' w', w'.ownsRow base e size (.slice a' (n + m) c') (n + m) (xs ++ news) → w.grownBy w' (Value.slice ad n c).ownBlock → K (a.put o.dst (.slice a' (n + m) c')) w') :
    if Region.wanted o (yielded ops a.tmps) = true then Oper.wp P o a w K Q else E := by
  have hw : Region.wanted o (yielded ops a.tmps) = true := by simp [Region.wanted, hgd]
  rw [if_pos hw]
  exact wp_append_src w s x t tx ho base e i z size bytes ht hi hz hsize hby hzs ad n c xs hs hown xv m news hx hsrc h63 hbytes hbase h

/-- the same, as a step of a region that draws its order -/
theorem step_append_srcN {ops : Array Oper} {o : Oper} {a : Act} {K : Act → World → Prop} {Q : Exit → Act → World → Prop} {E : Prop} (hgd : o.guard = none) (s x : Operand) (t tx : TypeId)
    (ho : o.op = .call { callee := .builtin .append, args := #[s, x], argTypes := #[t, tx] })
    (base : Nat) (e : TypeId) (i : TypeInfo) (z : Value) (size bytes : Nat) (ht : P.underlying t = some (.slice e)) (hi : P.info? e = some i) (hz : i.zero = some z)
    (hsize : i.size = size) (hby : i.bytes = bytes) (hzs : z.cells.size = size)
    (ad : Option Addr) (n c : Nat) (xs : List Value) (hs : a.eval s = .slice ad n c) (hown : w.ownsRow base e size (.slice ad n c) n xs)
    (xv : Value) (m : Nat) (news : List Value) (hx : a.eval x = xv) (hsrc : Src P size tx xv m news w)
    (h63 : n + m ≤ maxLen) (hbytes : (n + m) * bytes ≤ 140737488355328) (hbase : base ≤ w.heap.size)
    (h : ∀ a' c' w', w'.ownsRow base e size (.slice a' (n + m) c') (n + m) (xs ++ news) → w.grownBy w' (Value.slice ad n c).ownBlock → (a' = ad ∨ a' = some ⟨w.heap.size, 0, none⟩) → K (a.put o.dst (.slice a' (n + m) c')) w') :
    if Region.wanted o (yielded ops a.tmps) = true then Oper.wp P o a w K Q else E := by
  have hw : Region.wanted o (yielded ops a.tmps) = true := by simp [Region.wanted, hgd]
  rw [if_pos hw]
  exact wp_append_srcN w s x t tx ho base e i z size bytes ht hi hz hsize hby hzs ad n c xs hs hown xv m news hx hsrc h63 hbytes hbase h

/-- a slice that reads as bytes, as what is appended -/
theorem Sl.src {a : Option Addr} {n c : Nat} {l : Bs} {tx e' : TypeId} {w : World} (h : Sl w a n c l) (hk : P.underlying tx = some (.slice e')) : Src P 1 tx (.slice a n c) n (l.map bv) w := by
  have h1 : ∀ u ∈ l.map bv, u.oneCell' = true := fun u hu => by
    obtain ⟨_, _, rfl⟩ := List.mem_map.1 hu
    rfl
  have hl : (l.map bv).length = n * 1 := by simp [h.len]
  rcases h.cel with h0 | ⟨b, o, rfl, hc⟩
  · subst h0
    have : l = [] := List.eq_nil_of_length_eq_zero h.len
    subst this
    cases a with
    | none => exact Src.ofNil w hk c
    | some ad => exact Src.ofSlice w hk ad 0 c [] (by simp) (by simp) (by simp)
  · refine Src.ofSlice w hk ⟨b, o, none⟩ n c (l.map bv) hl (fun j u hu => ?_) h1
    have hj : j < n := by
      have := (List.getElem?_eq_some_iff.1 hu).1
      simpa [h.len] using this
    have hadd : (⟨b, o, none⟩ : Addr).add j = ⟨b, o + j, none⟩ := by unfold Addr.add; split <;> simp_all
    rw [hadd, hc j hj, ← hu]
    simp [bv, List.getD_eq_getElem?_getD, List.getElem?_eq_getElem (show j < l.length by rw [h.len]; exact hj)]
end

theorem Ow.nil (w : World) (base e : Nat) : Ow w base e none 0 [] := World.ownsRow_nil w base e 1
theorem Ow.of {w : World} {base e n c : Nat} {a : Option Addr} {l : Bs} {xs : List Value} (h : w.ownsRow base e 1 (.slice a n c) n xs) (hn : n = l.length) (hx : xs = l.map bv) : Ow w base e a c l := by
  subst hn; subst hx; exact h
theorem Ow.mono {w : World} {base base' e c : Nat} {a : Option Addr} {l : Bs} (h : Ow w base e a c l) (hb : base' ≤ base) : Ow w base' e a c l := by
  obtain ⟨h1, h2⟩ := h
  refine ⟨h1, ?_⟩
  rcases h2 with h2 | ⟨g, cap, cur, hv, hg, r⟩
  · exact .inl h2
  · exact .inr ⟨g, cap, cur, hv, by omega, r⟩
theorem Ow.len_le {w : World} {base e c : Nat} {a : Option Addr} {l : Bs} (h : Ow w base e a c l) : l.length ≤ maxLen := Nat.le_trans h.sl.cap h.sl.max
/-- a row of one's own stays while other blocks turn -/
theorem Ow.keep {S : List Nat} {w w' : World} {base e c : Nat} {a : Option Addr} {l : Bs} (h : Ow w base e a c l) (hf : Fr S w w') (hs : ∀ k, base ≤ k → k ∉ S) : Ow w' base e a c l := by
  obtain ⟨h1, h2⟩ := h
  refine ⟨h1, ?_⟩
  rcases h2 with h2 | ⟨g, cap, cur, hv, hg, hh, r⟩
  · exact .inl h2
  · exact .inr ⟨g, cap, cur, hv, hg, hf.obj hh (hs g hg), r⟩
theorem Ow.keep0 {w w' : World} {base e c : Nat} {a : Option Addr} {l : Bs} (h : Ow w base e a c l) (hf : Fr [] w w') : Ow w' base e a c l := h.keep hf (by simp)
/-- where the row lies -/
theorem Ow.block {w : World} {base e c : Nat} {ad : Addr} {l : Bs} (h : Ow w base e (some ad) c l) : ad.spot = none ∧ ad.off = 0 ∧ base ≤ ad.block ∧ ad.block < w.heap.size := by
  obtain ⟨h1, h2⟩ := h
  rcases h2 with ⟨h2, _⟩ | ⟨g, cap, cur, hv, hg, hh, r⟩
  · simp at h2
  · simp only [Value.slice.injEq, Option.some.injEq] at hv
    obtain ⟨rfl, _, _⟩ := hv
    exact ⟨rfl, rfl, hg, (Array.getElem?_eq_some_iff.1 hh).1⟩
/-- a new block of one byte, as a slice -/
theorem Sl.one (w : World) (u : UInt8) (e : Nat) : Sl (w.alloc (.cells #[.int .u8 u.toNat] e)) (some ⟨w.heap.size, 0, none⟩) 1 1 [u] := by
  refine ⟨rfl, Nat.le_refl _, by simp [maxLen], .inr ⟨w.heap.size, 0, rfl, fun i hi => ?_⟩⟩
  obtain rfl : i = 0 := by omega
  have h : (w.alloc (.cells #[.int .u8 u.toNat] e)).heap[w.heap.size]? = some (.cells #[.int .u8 u.toNat] e) := Go.heap_alloc_new w _
  simp only [World.cell?, h]
  rfl
/-- a slice just made -/
theorem Ow.made (w : World) (n e : Nat) (hn : n ≤ maxLen) : Ow (w.alloc (.cells (madeCells #[.int .u8 0] n) e)) w.heap.size e (some ⟨w.heap.size, 0, none⟩) n (List.replicate n 0) := by
  refine ⟨by simp, .inr ⟨w.heap.size, n, madeCells #[.int .u8 0] n, by simp, Nat.le_refl _, Go.heap_alloc_new w _, by simp, hn, by simp [size_madeCells], ?_⟩⟩
  rw [toList_madeCells_one]
  simp [bv]
/-- a row of one's own that holds something: its block, its cells -/
theorem Ow.open {w : World} {base e c : Nat} {a : Option Addr} {l : Bs} (h : Ow w base e a c l) (hl : 0 < l.length) :
    ∃ g cur, a = some ⟨g, 0, none⟩ ∧ base ≤ g ∧ w.heap[g]? = some (.cells cur e (0, 0)) ∧ l.length ≤ c ∧ c ≤ maxLen ∧ cur.size = c ∧ cur.toList.take l.length = l.map bv := by
  obtain ⟨h1, h2⟩ := h
  rcases h2 with ⟨_, h2⟩ | ⟨g, cap, cur, hv, hg, hh, hn, hm, hs, ht⟩
  · omega
  · simp only [Value.slice.injEq] at hv
    obtain ⟨rfl, _, rfl⟩ := hv
    exact ⟨g, cur, rfl, hg, hh, hn, hm, by simpa using hs, by simpa using ht⟩
theorem Ow.cell {w : World} {base e c g : Nat} {l : Bs} (h : Ow w base e (some ⟨g, 0, none⟩) c l) {k : Nat} (hk : k < l.length) :
    w.cell? ⟨g, k, none⟩ = some (.int .u8 (l.getD k 0).toNat) ∧ w.frozen? ⟨g, k, none⟩ = false := by
  obtain ⟨g', cur, hg, _, hh, _, _, hs, ht⟩ := h.open (by omega)
  simp only [Option.some.injEq, Addr.mk.injEq] at hg
  obtain ⟨rfl, _, _⟩ := hg
  refine ⟨?_, by simp [World.frozen?, hh]⟩
  have h4 : (cur.toList.take l.length)[k]? = (l.map bv)[k]? := by rw [ht]
  rw [List.getElem?_take_of_lt hk] at h4
  simp only [World.cell?, hh]
  simp only [Array.getElem?_toList, List.getElem?_map, List.getElem?_eq_getElem hk, Option.map_some] at h4
  simp [h4, bv, List.getElem?_eq_getElem hk]
theorem heap_setCell_same {w : World} {g k e : Nat} {cur : Array Value} {fz : Nat × Nat} (h : w.heap[g]? = some (.cells cur e fz)) (v : Value) :
    (w.setCell ⟨g, k, none⟩ v).heap[g]? = some (.cells (cur.setIfInBounds k v) e fz) := by
  simp only [World.setCell, Array.getElem?_modify, if_true, h, Option.map_some]
  rfl
/-- a store into a row of one's own -/
theorem Ow.set {w : World} {base e c g : Nat} {l : Bs} (h : Ow w base e (some ⟨g, 0, none⟩) c l) {k : Nat} (hk : k < l.length) (v : UInt8) :
    Ow (w.setCell ⟨g, k, none⟩ (.int .u8 v.toNat)) base e (some ⟨g, 0, none⟩) c (l.set k v) := by
  obtain ⟨g', cur, hg, hb, hh, hc, hm, hs, ht⟩ := h.open (by omega)
  simp only [Option.some.injEq, Addr.mk.injEq] at hg
  obtain ⟨rfl, _, _⟩ := hg
  refine ⟨by simp, .inr ⟨g, c, _, by simp, hb, heap_setCell_same hh _, by simpa using hc, hm, by simpa using hs, ?_⟩⟩
  simp only [List.length_set, Nat.mul_one, Array.toList_setIfInBounds, List.take_set, ht, List.map_set, bv]
/-- the beginning of a slice -/
theorem Sl.take {w : World} {a : Option Addr} {n c : Nat} {l : Bs} (h : Sl w a n c l) (k : Nat) (hk : k ≤ n) : Sl w a k c (l.take k) := by
  have h1 := h.len
  have h2 := h.cap
  refine ⟨by simp; omega, by omega, h.max, ?_⟩
  rcases h.cel with h0 | ⟨b, o, rfl, hc⟩
  · exact .inl (by omega)
  · refine .inr ⟨b, o, rfl, fun i hi => ?_⟩
    rw [hc i (by omega)]
    simp [List.getD_eq_getElem?_getD, List.getElem?_take_of_lt hi]
theorem Sl.lt {w : World} {a : Option Addr} {n c : Nat} {l : Bs} (h : Sl w a n c l) {x : Addr} (hx : a = some x) (hn : n ≠ 0) : x.block < w.heap.size := by
  rcases h.cel with h0 | ⟨b, o, rfl, hc⟩
  · exact absurd h0 hn
  · simp only [Option.some.injEq] at hx
    subst hx
    exact World.block_lt_of_cell? w _ (hc 0 (by omega))
end Go.Sha
