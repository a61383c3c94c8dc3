/- The library's Clone and Sum of a sponge: the bytes of its hash behind those that came in. The sponge absorbs, its place lies within its rate. -/
import Derived.Test.YtjgdbamlaajkmaaNew
import Derived.Test.YtjgdbamlaajkmaaOwn
import Derived.Test.YtjgdbamlaajkmaaRowW
namespace Go.Sha
open Go.RowKit
section
variable {P : Program} {w : World}
/-- append where there is room, to a block of whatever type -/
theorem wpList_append_fit {ops : Array Oper} {rest : List Oper} {o : Oper} {a : Act} {Q : Exit → Act → World → Prop} (hgd : o.guard = none) (s x : Operand) (t tx : TypeId)
    (ho : o.op = .call { callee := .builtin .append, args := #[s, x], argTypes := #[t, tx] })
    (e : TypeId) (i : TypeInfo) (ht : P.underlying t = some (.slice e)) (hi : P.info? e = some i) (hsize : i.size = 1)
    (g n c T : Nat) (cur : Array Value) (hs : a.eval s = .slice (some ⟨g, 0, none⟩) n c) (hg : w.heap[g]? = some (.cells cur T (0, 0)))
    (xv : Value) (m : Nat) (news : List Value) (hx : a.eval x = xv) (hsrc : Src P 1 tx xv m news w) (hroom : n + m ≤ c) (hfit : n + m ≤ cur.size)
    (cs' : Array Value) (he : (cur.toList.take n ++ news ++ cur.toList.drop (n + news.length)).toArray = cs')
    (h : wpList P ops Q rest (a.put o.dst (.slice (some ⟨g, 0, none⟩) (n + m) c)) (w.setRow g cs')) : wpList P ops Q (o :: rest) a w := by
  subst he
  refine wpList_plain hgd fun K hK => ?_
  have hnl : news.length = m := by simpa using hsrc.newsLen
  have hst := run_storeCells_at P g n T news 0 cur w hg (by rw [hnl]; omega) hsrc.one
  simp only [Nat.add_zero] at hst
  have hr : (Builtin.append_ #[t, tx] o.type #[.slice (some ⟨g, 0, none⟩) n c, xv]).run P w = .ok (.slice (some ⟨g, 0, none⟩) (n + m) c) (w.setRow g (cur.toList.take n ++ news ++ cur.toList.drop (n + news.length)).toArray) := by
    rcases hsrc.kind with ⟨e', hk⟩ | hk <;> simp [Builtin.append_, run_underlying ht, run_underlying hk, sizeOf, typeInfo, hi, hsize, hsrc.len, hroom, hsrc.cells, Addr.add_lit, hst]
  unfold Oper.wp execOp
  simp only [ho, resolve, invoke, builtin, Sem.run_bind, Sem.run_pure, Result.andThen_ok, List.map_toArray, List.map_cons, List.map_nil, hs, hx, hr]
  exact hK _ _ h
end
theorem Dg.cells_length (d : Dg) (h : d.a.length = 200) : d.cells.length = 205 := by simp [Dg.cells, h]
theorem Dg.cells_one (d : Dg) : ∀ v ∈ d.cells, v.oneCell' = true := fun v hv => by
  simp only [Dg.cells, List.mem_append, List.mem_map, List.mem_cons, List.not_mem_nil, or_false] at hv
  rcases hv with ⟨_, _, rfl⟩ | rfl | rfl | rfl | rfl | rfl <;> rfl
/-- the bytes of the hash -/
def hashD (d : Dg) : Bs := (squeeze d.out (padD d)).1
theorem hashD_length (d : Dg) : (hashD d).length = d.out := squeeze_length _ _
theorem Sl.of_splice {w : World} {g e c : Nat} {cur : Array Value} {l : Bs} (h : w.heap[g]? = some (.cells (splice cur 0 l) e (0, 0))) (hc : cur.size = c) (hl : l.length ≤ c) (hm : c ≤ maxLen) : Sl w (some ⟨g, 0, none⟩) l.length c l := by
  refine ⟨rfl, hl, hm, .inr ⟨g, 0, rfl, fun i hi => ?_⟩⟩
  have e : (splice cur 0 l)[0 + i]? = some (.int .u8 (l.getD i 0).toNat) := by
    unfold splice
    simp only [List.take_zero, List.nil_append, Nat.zero_add, List.getElem?_toArray]
    rw [List.getElem?_append_left (by simpa using hi), List.getElem?_map, List.getElem?_eq_getElem hi, getD_at l i hi]
    rfl
  rw [cell_of h, e]
theorem Fr.via {B : List Nat} {w0 w w' : World} (h : Fr [] w0 w) (k : Fr B w w') (hb : ∀ x ∈ B, w0.heap.size ≤ x) : Fr [] w0 w' :=
  ((h.mono (by simp)).trans k : Fr B w0 w').mono (fun x hx hB => by have := hb x hB; omega)
end Go.Sha
namespace Go.Proofs.Ytjgdbamlaajkmaa
open Go.ChangeShapes Go.WideShapes Go.ChangeAt Go.RowKit Go.Sha
theorem Ow.row' {w : World} {base e n c : Nat} {a : Option Addr} {l : Bs} (h : Ow w base e a c l) (hn : l.length = n) : w.ownsRow base e 1 (.slice a n c) n (l.map bv) := by subst hn; exact h
theorem sizeDg : (Try.prog.info? 58).map (·.size) = some 205 := by kernel_rfl
theorem zeroDg : ((Try.prog.info? 58).bind (·.zero)).map (·.cells) = some ((newD 0 0 0).cells ++ []).toArray := by kernel_rfl

set_option maxRecDepth 100000 in
theorem Clone_any (w : World) (b T : Nat) (d : Dg) (h : DgAt w b T [] d) : Calls Try.prog 83 #[.pointer (some ⟨b, 0, none⟩)] w (RetN 58 [] d w) := by
  have hl := h.1
  have H0 : Hid (w.heap[b]? = some (.cells d.cells.toArray T (0, 0))) := by have := h.2; rw [List.append_nil] at this; exact this
  have hs : Hid (d.cells.toArray.size = 205) := by show _ = _; simp [Dg.cells_length d hl]
  clear h
  go_enter Try.func83, Try.ntmps83
  go_wp2_with (first | (with_reducible refine wpList_load_row rfl _ _ rfl b rfl T d.cells.toArray (0, 0) _ H0.out Try.underlying58 rfl (by rw [hs.out]; exact sizeDg) ?_; refine Hid.out ?_))
  show wpList _ _ _ _ _ _
  refine wpList_alloc_row rfl _ rfl _ zeroDg ?_
  have N1 := Lib.hid (newD_at w 58 0 0 0 [])
  refine wpList_store_bits rfl _ _ _ rfl w.heap.size rfl 58 d.cells.toArray _ rfl N1.out.2 ?_ ?_ ?_ ?_
  · rw [hs.out]; simp [Dg.cells, newD]
  · intro v hv
    exact d.cells_one v (by simpa using hv)
  · rw [hs.out]; exact sizeDg
  have D2 : DgAt ((w.alloc (.cells ((newD 0 0 0).cells ++ []).toArray 58)).setRow w.heap.size d.cells.toArray) w.heap.size 58 [] d := ⟨hl, by rw [List.append_nil d.cells]; exact setRow_heap _ _ _ _ _ _ N1.out.2⟩
  have f2 : Fr [] w ((w.alloc (.cells ((newD 0 0 0).cells ++ []).toArray 58)).setRow w.heap.size d.cells.toArray) := ((Fr.refl _ _).alloc _).setRow _ _ (.inl (Nat.le_refl _))
  have z2 : ((w.alloc (.cells ((newD 0 0 0).cells ++ []).toArray 58)).setRow w.heap.size d.cells.toArray).heap.size = w.heap.size + 1 := by simp [World.setRow]
  generalize (w.alloc (.cells ((newD 0 0 0).cells ++ []).toArray 58)).setRow w.heap.size d.cells.toArray = w2 at D2 f2 z2 ⊢
  have H2 := Lib.hid D2
  have Z2 := Lib.hid z2
  clear D2 z2
  go_wp2_with fail
  go_ret
  exact ⟨rfl, H2.out, f2, Z2.out⟩

theorem make_cap (n c : Nat) (z : Int) (hz : z = c) (hn : n ≤ c) (hc : c ≤ 140737488355328) : ∀ u : World, (Instr.makeSlice 22 (.int .i64 (n : Int)) (.int .i64 z)).run Try.prog u =
    .ok (.slice (some ⟨u.heap.size, 0, none⟩) n c) (u.alloc (.cells (madeCells #[.int .u8 0] c) 5)) := fun u => by
  subst hz
  obtain ⟨i0, hi, hz0, hz1, hz2⟩ := info_parts info5
  have h := run_make (P := Try.prog) u 22 5 i0 (.int .u8 0) Try.underlying22 hi hz0 .i64 .i64 (n : Int) (c : Int) (by omega) (by omega) (by rw [hz2]; omega) (by omega)
  have e : ((n : Int)).toNat = n := by omega
  have e2 : ((c : Int)).toNat = c := by omega
  rw [e, e2] at h
  simpa [hz1, Value.cells] using h

set_option maxHeartbeats 1000000 in
/-- Sum, appended to a row of one's own -/
theorem sumGeneric_own (w : World) (b T : Nat) (d : Dg) (ai : Option Addr) (ni ci : Nat) (l : Bs) (base : Nat) (h : DgAt w b T [] d) (hok : d.Ok) (hst : d.st = 0) (hout : d.out ≤ 64) (hl : l.length = ni) (hO : Ow w base 5 ai ci l) (hb : base ≤ w.heap.size) (hn : ni + 64 ≤ 140737488355328) :
    Calls Try.prog 75 #[.pointer (some ⟨b, 0, none⟩), .slice ai ni ci] w fun e w' => ∃ a c, e = .returned (.slice a (ni + d.out) c) ∧ Ow w' base 5 a c (l ++ hashD d) ∧ Fr (Value.slice ai ni ci).ownBlock.toList w w' := by
  have HO := Lib.hid hO
  have HL := Lib.hid hl
  clear hO hl
  obtain ⟨i0, hi, hz0, hz1, hz2⟩ := info_parts info5
  obtain ⟨da, dn, dr, dd, dou, dst⟩ := d
  simp only at hst hout
  subst hst
  have q1 := h.cst
  simp only at q1
  have HD := Lib.hid h
  have HK := Lib.hid hok
  clear h hok
  go_enter Try.func75, Try.ntmps75
  go_wp2_with fail
  refine (Clone_any w b T _ HD.out).mono ?_
  rintro e w1 ⟨rfl, D1, f1, z1⟩
  clear q1
  have q2 := D1.cout
  simp only at q2
  have H1 := Lib.hid D1
  have Z1 := Lib.hid z1
  clear D1 z1
  have hmk := make_cap dou 64 64 rfl hout (by omega)
  go_wp2_with fail
  clear hmk q2
  have f2 : Fr [] w1 (w1.alloc (.cells (madeCells #[.int .u8 0] 64) 5)) := (Fr.refl _ _).alloc _
  have G2 := Lib.hid (Go.heap_alloc_new w1 (.cells (madeCells #[.int .u8 0] 64) 5))
  have D2 := Lib.hid (H1.out.keep f2 (by simp))
  have z2 : (w1.alloc (.cells (madeCells #[.int .u8 0] 64) 5)).heap.size = w1.heap.size + 1 := by simp
  have Z2 := Lib.hid z2
  obtain ⟨CUR, hCUR⟩ : ∃ CUR : Array Value, CUR = madeCells #[.int .u8 0] 64 := ⟨_, rfl⟩
  have hCS : CUR.size = 64 := by rw [hCUR]; exact size_madeCells _ _
  have HCS := Lib.hid hCS
  rw [← hCUR] at G2 D2 f2 z2 Z2 ⊢
  clear hCUR hCS z2
  generalize w1.alloc (.cells CUR 5) = w2 at f2 G2 D2 Z2 ⊢
  refine (dread_abs w2 w.heap.size 58 [] _ w1.heap.size 0 dou 64 5 CUR D2.out HK.out rfl G2.out (by have := Z1.out; omega) (by rw [HCS.out]; omega) hout (by omega)).mono ?_
  rintro e w3 ⟨rfl, D3, g3, f3⟩
  have hf1 := f1.size
  have F3 : Fr [] w w3 := (f1.trans f2).via f3 (fun x hx => by simp at hx; omega)
  obtain ⟨Hs, hHs⟩ : ∃ Hs, Hs = hashD ⟨da, dn, dr, dd, dou, 0⟩ := ⟨_, rfl⟩
  have hHl : Hs.length = dou := by rw [hHs]; exact hashD_length _
  have S3 : Sl w3 (some ⟨w1.heap.size, 0, none⟩) dou 64 Hs := by
    have e := Sl.of_splice g3 HCS.out (by rw [squeeze_length]; exact hout) (by simp [maxLen])
    rw [squeeze_length] at e
    rw [hHs]
    exact e
  obtain ⟨ys, hys⟩ : ∃ ys, ys = Hs.map bv := ⟨_, rfl⟩
  have Y3 : Hid (Src Try.prog 1 22 (.slice (some ⟨w1.heap.size, 0, none⟩) dou 64) dou ys w3) := by rw [hys]; exact S3.src Try.underlying22
  have HH := Lib.hid (And.intro hHs (And.intro hHl hys))
  clear D3 g3 f3 f2 f1 G2 D2 Z2 H1 hHs hHl hys S3
  obtain ⟨xs, hxs⟩ : ∃ xs, xs = l.map bv := ⟨_, rfl⟩
  have O3 : Hid (w3.ownsRow base 5 1 (.slice ai ni ci) ni xs) := by rw [hxs]; exact Ow.row' (HO.out.keep0 F3) HL.out
  have HXS := Lib.hid hxs
  clear hxs
  have X1 : Hid (ni + dou ≤ maxLen) := by show _ ≤ _; unfold maxLen; omega
  have X2 : Hid ((ni + dou) * 1 ≤ 140737488355328) := by show _ ≤ _; omega
  have X3 : Hid (base ≤ w3.heap.size) := by show _ ≤ _; have := F3.size; omega
  go_wp2_with (at_builtin; refine wpList_append_src _ rfl _ _ 22 22 rfl base 5 i0 (.int .u8 0) 1 1 Try.underlying22 hi hz0 hz1 hz2 rfl ai ni ci xs rfl O3.out _ dou ys rfl Y3.out X1.out X2.out X3.out ?_)
  intro a4 c4 w4 ho hg
  have O4 : Ow w4 base 5 a4 c4 (l ++ Hs) := Ow.of ho (by rw [List.length_append, HL.out, HH.out.2.1]) (by rw [HXS.out, HH.out.2.2, List.map_append])
  have F4 : Fr (Value.slice ai ni ci).ownBlock.toList w w4 := ((F3.mono (by simp)).grown hg (fun q hq => by rw [hq]; exact .inr (by simp)))
  have H4 := Lib.hid (And.intro O4 F4)
  clear ho hg O4 F4 O3 Y3 X1 X2 X3 F3
  go_wp2_with fail
  go_ret
  refine ⟨a4, c4, rfl, ?_, H4.out.2⟩
  rw [← HH.out.1]
  exact H4.out.1

set_option maxHeartbeats 1000000 in
/-- Sum, where the block that came in has room -/
theorem sumGeneric_fit (w : World) (b T : Nat) (d : Dg) (g ci Tg : Nat) (cur : Array Value) (h : DgAt w b T [] d) (hok : d.Ok) (hst : d.st = 0) (hout : d.out ≤ 64) (hgc : w.heap[g]? = some (.cells cur Tg (0, 0))) (hci : d.out ≤ ci) (hcs : d.out ≤ cur.size) :
    Calls Try.prog 75 #[.pointer (some ⟨b, 0, none⟩), .slice (some ⟨g, 0, none⟩) 0 ci] w fun e w' => e = .returned (.slice (some ⟨g, 0, none⟩) d.out ci) ∧ w'.heap[g]? = some (.cells (splice cur 0 (hashD d)) Tg (0, 0)) ∧ Fr [g] w w' := by
  have HG := Lib.hid hgc
  clear hgc
  obtain ⟨i0, hi, hz0, hz1, hz2⟩ := info_parts info5
  obtain ⟨da, dn, dr, dd, dou, dst⟩ := d
  simp only at hst hout
  subst hst
  have q1 := h.cst
  simp only at q1
  have HD := Lib.hid h
  have HK := Lib.hid hok
  clear h hok
  go_enter Try.func75, Try.ntmps75
  go_wp2_with fail
  refine (Clone_any w b T _ HD.out).mono ?_
  rintro e w1 ⟨rfl, D1, f1, z1⟩
  clear q1
  have q2 := D1.cout
  simp only at q2
  have H1 := Lib.hid D1
  have Z1 := Lib.hid z1
  clear D1 z1
  have hmk := make_cap dou 64 64 rfl hout (by omega)
  go_wp2_with fail
  clear hmk q2
  have f2 : Fr [] w1 (w1.alloc (.cells (madeCells #[.int .u8 0] 64) 5)) := (Fr.refl _ _).alloc _
  have G2 := Lib.hid (Go.heap_alloc_new w1 (.cells (madeCells #[.int .u8 0] 64) 5))
  have D2 := Lib.hid (H1.out.keep f2 (by simp))
  have z2 : (w1.alloc (.cells (madeCells #[.int .u8 0] 64) 5)).heap.size = w1.heap.size + 1 := by simp
  have Z2 := Lib.hid z2
  obtain ⟨CUR, hCUR⟩ : ∃ CUR : Array Value, CUR = madeCells #[.int .u8 0] 64 := ⟨_, rfl⟩
  have hCS : CUR.size = 64 := by rw [hCUR]; exact size_madeCells _ _
  have HCS := Lib.hid hCS
  rw [← hCUR] at G2 D2 f2 z2 Z2 ⊢
  clear hCUR hCS z2
  generalize w1.alloc (.cells CUR 5) = w2 at f2 G2 D2 Z2 ⊢
  refine (dread_abs w2 w.heap.size 58 [] _ w1.heap.size 0 dou 64 5 CUR D2.out HK.out rfl G2.out (by have := Z1.out; omega) (by rw [HCS.out]; omega) hout (by omega)).mono ?_
  rintro e w3 ⟨rfl, D3, g3, f3⟩
  have hf1 := f1.size
  have F3 : Fr [] w w3 := (f1.trans f2).via f3 (fun x hx => by simp at hx; omega)
  obtain ⟨Hs, hHs⟩ : ∃ Hs, Hs = hashD ⟨da, dn, dr, dd, dou, 0⟩ := ⟨_, rfl⟩
  have hHl : Hs.length = dou := by rw [hHs]; exact hashD_length _
  have S3 : Sl w3 (some ⟨w1.heap.size, 0, none⟩) dou 64 Hs := by
    have e := Sl.of_splice g3 HCS.out (by rw [squeeze_length]; exact hout) (by simp [maxLen])
    rw [squeeze_length] at e
    rw [hHs]
    exact e
  obtain ⟨ys, hys⟩ : ∃ ys, ys = Hs.map bv := ⟨_, rfl⟩
  have Y3 : Hid (Src Try.prog 1 22 (.slice (some ⟨w1.heap.size, 0, none⟩) dou 64) dou ys w3) := by rw [hys]; exact S3.src Try.underlying22
  have HH := Lib.hid (And.intro hHs (And.intro hHl hys))
  clear D3 g3 f3 f2 f1 G2 D2 Z2 H1 hHs hHl hys S3
  have G3 : Hid (w3.heap[g]? = some (.cells cur Tg (0, 0))) := F3.obj HG.out (by simp)
  have X1 : Hid (0 + dou ≤ ci) := by show _ ≤ _; omega
  have X2 : Hid (0 + dou ≤ cur.size) := by show _ ≤ _; omega
  have E4 : Hid ((cur.toList.take 0 ++ ys ++ cur.toList.drop (0 + ys.length)).toArray = splice cur 0 Hs) := by
    rw [HH.out.2.2, List.length_map]
    rfl
  go_wp2_with (at_builtin; refine wpList_append_fit rfl _ _ 22 22 rfl 5 i0 Try.underlying22 hi hz1 g 0 ci Tg cur rfl G3.out _ dou ys rfl Y3.out X1.out X2.out _ E4.out ?_; refine Hid.out ?_)
  show wpList _ _ _ _ _ _
  have G4 := Lib.hid (setRow_heap _ _ _ (splice cur 0 Hs) _ _ G3.out)
  have F4 : Fr [g] w (w3.setRow g (splice cur 0 Hs)) := (F3.mono (by simp)).setRow _ _ (.inr (by simp))
  generalize w3.setRow g (splice cur 0 Hs) = w4 at G4 F4 ⊢
  clear Y3 G3 X1 X2 F3
  go_wp2_with fail
  go_ret
  refine ⟨by simp, ?_, F4⟩
  rw [← HH.out.1]
  exact G4.out

theorem sum_own (w : World) (b T : Nat) (d : Dg) (ai : Option Addr) (ni ci : Nat) (l : Bs) (base : Nat) (h : DgAt w b T [] d) (hok : d.Ok) (hst : d.st = 0) (hout : d.out ≤ 64) (hl : l.length = ni) (hO : Ow w base 5 ai ci l) (hb : base ≤ w.heap.size) (hn : ni + 64 ≤ 140737488355328) :
    Calls Try.prog 68 #[.pointer (some ⟨b, 0, none⟩), .slice ai ni ci] w fun e w' => ∃ a c, e = .returned (.slice a (ni + d.out) c) ∧ Ow w' base 5 a c (l ++ hashD d) ∧ Fr (Value.slice ai ni ci).ownBlock.toList w w' := by
  have HO := Lib.hid hO
  have HL := Lib.hid hl
  have HS := Lib.hid hst
  clear hO hl hst
  go_enter Try.func68, Try.ntmps68
  go_wp2_with fail
  refine (sumGeneric_own w b T d ai ni ci l base h hok HS.out hout HL.out HO.out hb hn).mono ?_
  rintro e w2 ⟨a, c, rfl, o2, f2⟩
  have O2 := Lib.hid o2
  clear o2
  go_wp2_with fail
  go_ret
  exact ⟨a, c, rfl, O2.out, f2⟩
theorem sum_fit (w : World) (b T : Nat) (d : Dg) (g ci Tg : Nat) (cur : Array Value) (h : DgAt w b T [] d) (hok : d.Ok) (hst : d.st = 0) (hout : d.out ≤ 64) (hgc : w.heap[g]? = some (.cells cur Tg (0, 0))) (hci : d.out ≤ ci) (hcs : d.out ≤ cur.size) :
    Calls Try.prog 68 #[.pointer (some ⟨b, 0, none⟩), .slice (some ⟨g, 0, none⟩) 0 ci] w fun e w' => e = .returned (.slice (some ⟨g, 0, none⟩) d.out ci) ∧ w'.heap[g]? = some (.cells (splice cur 0 (hashD d)) Tg (0, 0)) ∧ Fr [g] w w' := by
  have HG := Lib.hid hgc
  have HS := Lib.hid hst
  clear hgc hst
  go_enter Try.func68, Try.ntmps68
  go_wp2_with fail
  refine (sumGeneric_fit w b T d g ci Tg cur h hok HS.out hout HG.out hci hcs).mono ?_
  rintro e w2 ⟨rfl, g2, f2⟩
  have G2 := Lib.hid g2
  clear g2
  go_wp2_with fail
  go_ret
  exact ⟨rfl, G2.out, f2⟩

theorem Sum_own (w : World) (b T : Nat) (d : Dg) (ai : Option Addr) (ni ci : Nat) (l : Bs) (base : Nat) (h : DgAt w b T [] d) (hok : d.Ok) (hst : d.st = 0) (hout : d.out ≤ 64) (hl : l.length = ni) (hO : Ow w base 5 ai ci l) (hb : base ≤ w.heap.size) (hn : ni + 64 ≤ 140737488355328) :
    Calls Try.prog 55 #[.pointer (some ⟨b, 0, none⟩), .slice ai ni ci] w fun e w' => ∃ a c, e = .returned (.slice a (ni + d.out) c) ∧ Ow w' base 5 a c (l ++ hashD d) ∧ Fr (Value.slice ai ni ci).ownBlock.toList w w' := by
  have HO := Lib.hid hO
  have HL := Lib.hid hl
  have HS := Lib.hid hst
  clear hO hl hst
  go_enter Try.func55, Try.ntmps55
  go_wp2_with fail
  refine (recordApproved_any w).mono ?_
  rintro en w' ⟨rfl, rfl⟩
  go_wp2_with fail
  refine (sum_own w b T d ai ni ci l base h hok HS.out hout HL.out HO.out hb hn).mono ?_
  rintro e w2 ⟨a, c, rfl, o2, f2⟩
  have O2 := Lib.hid o2
  clear o2
  go_wp2_with fail
  go_ret
  exact ⟨a, c, rfl, O2.out, f2⟩
theorem Sum_fit (w : World) (b T : Nat) (d : Dg) (g ci Tg : Nat) (cur : Array Value) (h : DgAt w b T [] d) (hok : d.Ok) (hst : d.st = 0) (hout : d.out ≤ 64) (hgc : w.heap[g]? = some (.cells cur Tg (0, 0))) (hci : d.out ≤ ci) (hcs : d.out ≤ cur.size) :
    Calls Try.prog 55 #[.pointer (some ⟨b, 0, none⟩), .slice (some ⟨g, 0, none⟩) 0 ci] w fun e w' => e = .returned (.slice (some ⟨g, 0, none⟩) d.out ci) ∧ w'.heap[g]? = some (.cells (splice cur 0 (hashD d)) Tg (0, 0)) ∧ Fr [g] w w' := by
  have HG := Lib.hid hgc
  have HS := Lib.hid hst
  clear hgc hst
  go_enter Try.func55, Try.ntmps55
  go_wp2_with fail
  refine (recordApproved_any w).mono ?_
  rintro en w' ⟨rfl, rfl⟩
  go_wp2_with fail
  refine (sum_fit w b T d g ci Tg cur h hok HS.out hout HG.out hci hcs).mono ?_
  rintro e w2 ⟨rfl, g2, f2⟩
  have G2 := Lib.hid g2
  clear g2
  go_wp2_with fail
  go_ret
  exact ⟨rfl, G2.out, f2⟩

end Go.Proofs.Ytjgdbamlaajkmaa
