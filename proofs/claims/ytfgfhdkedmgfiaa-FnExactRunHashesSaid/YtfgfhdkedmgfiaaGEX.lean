/- Contracts and lemmas, merged: Eqr, Tas, Mka, Mkr, Sza, Exp. Their conditions stand in each. -/
import Derived.Test.YtfgfhdkedmgfiaaGA
import Derived.Test.YtfgfhdkedmgfiaaGB
import Derived.Test.YtfgfhdkedmgfiaaGC
import Derived.Test.YtfgfhdkedmgfiaaGD
import Derived.Test.YtfgfhdkedmgfiaaGE
import Derived.Test.YtfgfhdkedmgfiaaGF
import Derived.Test.YtfgfhdkedmgfiaaGG
import Derived.Test.YtfgfhdkedmgfiaaGH
import Derived.Test.YtfgfhdkedmgfiaaGN
import Derived.Test.YtfgfhdkedmgfiaaGS
import Derived.Test.YtfgfhdkedmgfiaaGO
import Derived.Test.YtfgfhdkedmgfiaaGP
import Derived.Test.YtfgfhdkedmgfiaaGK
import Derived.Test.YtfgfhdkedmgfiaaGM
import Derived.Test.YtfgfhdkedmgfiaaGER
import Derived.Test.YtfgfhdkedmgfiaaGEH
import Derived.Test.YtfgfhdkedmgfiaaGEM
import Derived.LoopTactic
section
namespace Go.Proofs.Ytfgfhdkedmgfiaa
open Go.ChangeShapes Go.WideShapes Go.ChangeAt Go.RowKit Go.Sha
set_option maxRecDepth 100000 in
set_option maxHeartbeats 1600000 in
theorem eqResult_t (w : World) (z : Int) (ok pan : Bool) (a1 a2 : Option Addr) (n1 c1 n2 c2 : Nat) (l : Bs) (h1 : Sl w a1 n1 c1 l) (h2 : Sl w a2 n2 c2 l) :
    Calls Try.prog 52 #[.agg #[.int .i64 z, .slice a1 n1 c1, .bool ok, .bool pan], .agg #[.int .i64 z, .slice a2 n2 c2, .bool ok, .bool pan]] w (RetB true w) := by
  have HZ : Fr [] w ((w.alloc (.cells #[.int .i64 z, .slice a1 n1 c1, .bool ok, .bool pan] 31)).alloc (.cells #[.int .i64 z, .slice a2 n2 c2, .bool ok, .bool pan] 31)) := ((Fr.refl _ _).alloc _).alloc _
  have HFZ := Lib.hid HZ
  have z1 : (w.alloc (.cells #[.int .i64 z, .slice a1 n1 c1, .bool ok, .bool pan] 31)).heap.size = w.heap.size + 1 := by simp
  have A1 : Hid (((w.alloc (.cells #[.int .i64 z, .slice a1 n1 c1, .bool ok, .bool pan] 31)).alloc (.cells #[.int .i64 z, .slice a2 n2 c2, .bool ok, .bool pan] 31)).heap[w.heap.size]? = some (.cells #[.int .i64 z, .slice a1 n1 c1, .bool ok, .bool pan] 31 (0, 0))) := ((Fr.refl [] _).alloc _).obj (Go.heap_alloc_new w _) (by simp)
  have A2 : Hid (((w.alloc (.cells #[.int .i64 z, .slice a1 n1 c1, .bool ok, .bool pan] 31)).alloc (.cells #[.int .i64 z, .slice a2 n2 c2, .bool ok, .bool pan] 31)).heap[w.heap.size + 1]? = some (.cells #[.int .i64 z, .slice a2 n2 c2, .bool ok, .bool pan] 31 (0, 0))) := by
    show _ = _
    rw [← z1]
    exact Go.heap_alloc_new _ _
  have H1 := Lib.hid (h1.keep0 HZ)
  have H2 := Lib.hid (h2.keep0 HZ)
  clear h1 h2 HZ z1
  go_enter Try.func52, Try.ntmps52
  go_wp2_with fail
  refine (eqByteS_t a1 a2 n1 n2 c1 c2 l l _ H1.out H2.out rfl).mono ?_
  rintro e w3 ⟨rfl, f3⟩
  have HF := Lib.hid (HFZ.out.trans f3)
  have q12 : w3.cell? ⟨w.heap.size, 2, none⟩ = some (.bool ok) := by rw [cell_of (f3.obj A1.out (by simp))]; rfl
  have q13 : w3.cell? ⟨w.heap.size, 3, none⟩ = some (.bool pan) := by rw [cell_of (f3.obj A1.out (by simp))]; rfl
  have q22 : w3.cell? ⟨w.heap.size + 1, 2, none⟩ = some (.bool ok) := by rw [cell_of (f3.obj A2.out (by simp))]; rfl
  have q23 : w3.cell? ⟨w.heap.size + 1, 3, none⟩ = some (.bool pan) := by rw [cell_of (f3.obj A2.out (by simp))]; rfl
  clear A1 A2 H1 H2 f3 HFZ
  go_wp2_with fail
  go_ret
  exact ⟨rfl, HF.out⟩
set_option maxRecDepth 100000 in
set_option maxHeartbeats 1600000 in
theorem eqAct_t (w : World) (k att pick : Int) (a1 a2 : Option Addr) (n1 c1 n2 c2 : Nat) (l : Bs) (h1 : Sl w a1 n1 c1 l) (h2 : Sl w a2 n2 c2 l) :
    Calls Try.prog 53 #[.agg #[.int .i64 k, .int .i64 att, .int .i64 pick, .slice a1 n1 c1], .agg #[.int .i64 k, .int .i64 att, .int .i64 pick, .slice a2 n2 c2]] w (RetB true w) := by
  have HZ : Fr [] w ((w.alloc (.cells #[.int .i64 k, .int .i64 att, .int .i64 pick, .slice a1 n1 c1] 26)).alloc (.cells #[.int .i64 k, .int .i64 att, .int .i64 pick, .slice a2 n2 c2] 26)) := ((Fr.refl _ _).alloc _).alloc _
  have HFZ := Lib.hid HZ
  have z1 : (w.alloc (.cells #[.int .i64 k, .int .i64 att, .int .i64 pick, .slice a1 n1 c1] 26)).heap.size = w.heap.size + 1 := by simp
  have A1 : Hid (((w.alloc (.cells #[.int .i64 k, .int .i64 att, .int .i64 pick, .slice a1 n1 c1] 26)).alloc (.cells #[.int .i64 k, .int .i64 att, .int .i64 pick, .slice a2 n2 c2] 26)).heap[w.heap.size]? = some (.cells #[.int .i64 k, .int .i64 att, .int .i64 pick, .slice a1 n1 c1] 26 (0, 0))) := ((Fr.refl [] _).alloc _).obj (Go.heap_alloc_new w _) (by simp)
  have A2 : Hid (((w.alloc (.cells #[.int .i64 k, .int .i64 att, .int .i64 pick, .slice a1 n1 c1] 26)).alloc (.cells #[.int .i64 k, .int .i64 att, .int .i64 pick, .slice a2 n2 c2] 26)).heap[w.heap.size + 1]? = some (.cells #[.int .i64 k, .int .i64 att, .int .i64 pick, .slice a2 n2 c2] 26 (0, 0))) := by
    show _ = _
    rw [← z1]
    exact Go.heap_alloc_new _ _
  have H1 := Lib.hid (h1.keep0 HZ)
  have H2 := Lib.hid (h2.keep0 HZ)
  clear h1 h2 HZ z1
  go_enter Try.func53, Try.ntmps53
  go_wp2_with fail
  refine (eqByteS_t a1 a2 n1 n2 c1 c2 l l _ H1.out H2.out rfl).mono ?_
  rintro e w3 ⟨rfl, f3⟩
  have HF := Lib.hid (HFZ.out.trans f3)
  clear A1 A2 H1 H2 f3 HFZ
  go_wp2_with fail
  go_ret
  exact ⟨rfl, HF.out⟩
set_option maxRecDepth 100000 in
set_option maxHeartbeats 1600000 in
theorem eqResultS_t (w : World) (a b : Option Addr) (n c d : Nat) (rs : List Res) (h1 : RsR w a n c rs) (h2 : RsR w b n d rs) :
    Calls Try.prog 32 #[.slice a n c, .slice b n d] w (RetB true w) := by
  have HA := Lib.hid h1
  have HB := Lib.hid h2
  have hcap1 := h1.cap
  have hmx1 := h1.max
  have hcap2 := h2.cap
  have hmx2 := h2.max
  unfold maxLen at hmx1 hmx2
  clear h1 h2
  go_enter Try.func32, Try.ntmps32
  go_wp2_with fail
  go_loopw [5] (fun iv wr => SrRel w n iv wr) (fun iv _ => n - (intOf iv).toNat)
  case atStart => exact ⟨0, by omega, rfl, Fr.refl _ _⟩
  case round =>
    obtain ⟨i, hi, rfl, hf⟩ := hrel
    by_cases hlt : i < n
    · obtain ⟨b1, o1, ad1, nd1, cd1, rfl, q1, s1⟩ := RsR.at4 (HA.out.keep0 hf) hlt
      obtain ⟨b2, o2, ad2, nd2, cd2, rfl, q2, s2⟩ := RsR.at4 (HB.out.keep0 hf) hlt
      generalize rs.getD i ⟨0, [], false, false⟩ = x at q1 q2 s1 s2
      obtain ⟨z, data, ok, pan⟩ := x
      simp only at q1 q2 s1 s2
      have D0 : SrR w ad1 nd1 cd1 ad2 nd2 cd2 data wr.drew := ⟨s1.keep0 (Fr.refl _ _).drew, s2.keep0 (Fr.refl _ _).drew, hf.drew⟩
      have A0 := q1.keep (Fr.refl [] _).drew
      have B0 := q2.keep (Fr.refl [] _).drew
      clear q1 q2
      clear s1 s2 hf
      go_wp2_with fail
      go_region_held3 (fun w' => w'.cell? ⟨b1, o1 + i * 4, none⟩ = some (.int .i64 z) ∧ w'.cell? ⟨b1, o1 + i * 4 + 1, none⟩ = some (.slice ad1 nd1 cd1) ∧ w'.cell? ⟨b1, o1 + i * 4 + 2, none⟩ = some (.bool ok) ∧ w'.cell? ⟨b1, o1 + i * 4 + 3, none⟩ = some (.bool pan) ∧ w'.cell? ⟨b2, o2 + i * 4, none⟩ = some (.int .i64 z) ∧ w'.cell? ⟨b2, o2 + i * 4 + 1, none⟩ = some (.slice ad2 nd2 cd2) ∧ w'.cell? ⟨b2, o2 + i * 4 + 2, none⟩ = some (.bool ok) ∧ w'.cell? ⟨b2, o2 + i * 4 + 3, none⟩ = some (.bool pan))
        (first | (exact ⟨A3.c0, A3.c1, A3.c2, A3.c3, B3.c0, B3.c1, B3.c2, B3.c3⟩) | (exact ⟨A0.c0, A0.c1, A0.c2, A0.c3, B0.c0, B0.c1, B0.c2, B0.c3⟩))
        (first
          | (go_at_call 52; refine (eqResult_t _ z ok pan ad1 ad2 nd1 cd1 nd2 cd2 data D0.s1 D0.s2).mono ?_; rintro e w3 ⟨rfl, f3⟩; have A3 := A0.keep f3; have B3 := B0.keep f3; have D3 := D0.keep f3))
      go_wp2_with fail
      exact ⟨⟨i + 1, by omega, by simp, D3.fr⟩, by simp [intOf]; omega⟩
    · obtain rfl : i = n := by omega
      have HF := Lib.hid hf
      clear hf
      go_wp2_with fail
      go_ret
      exact ⟨rfl, HF.out⟩
/-- a call's four cells -/
structure A4 (b o : Nat) (k att pick : Int) (ad : Option Addr) (nd cd : Nat) (w : World) : Prop where
  c0 : w.cell? ⟨b, o, none⟩ = some (.int .i64 k)
  c1 : w.cell? ⟨b, o + 1, none⟩ = some (.int .i64 att)
  c2 : w.cell? ⟨b, o + 2, none⟩ = some (.int .i64 pick)
  c3 : w.cell? ⟨b, o + 3, none⟩ = some (.slice ad nd cd)
theorem A4.keep {b o : Nat} {k att pick : Int} {ad : Option Addr} {nd cd : Nat} {w w' : World} (h : A4 b o k att pick ad nd cd w) (f : Fr [] w w') : A4 b o k att pick ad nd cd w' :=
  ⟨f.cell h.c0 (by simp), f.cell h.c1 (by simp), f.cell h.c2 (by simp), f.cell h.c3 (by simp)⟩
theorem ActsAt.at4 {w : World} {a : Option Addr} {n c : Nat} {xs : List Actn} (h : ActsAt w a n c xs) {i : Nat} (hi : i < n) : ∃ b o ad nd cd, a = some ⟨b, o, none⟩ ∧ A4 b (o + i * 4) (xs.getD i ⟨0, 0, 0, []⟩).k (xs.getD i ⟨0, 0, 0, []⟩).at_ (xs.getD i ⟨0, 0, 0, []⟩).pick ad nd cd w ∧ Sl w ad nd cd (xs.getD i ⟨0, 0, 0, []⟩).data := by
  rcases h.cel with h0 | ⟨b, o, ha, hc⟩
  · omega
  · obtain ⟨ad, nd, cd, h1, h2, h3, h4, h5, _⟩ := hc i hi
    rw [show o + 4 * i = o + i * 4 by omega] at h1 h2 h3 h4
    exact ⟨b, o, ad, nd, cd, ha, ⟨h1, h2, h3, h4⟩, h5⟩
set_option maxRecDepth 100000 in
set_option maxHeartbeats 1600000 in
theorem eqActS_t (w : World) (a b : Option Addr) (n c d : Nat) (rs : List Actn) (h1 : ActsAt w a n c rs) (h2 : ActsAt w b n d rs) :
    Calls Try.prog 33 #[.slice a n c, .slice b n d] w (RetB true w) := by
  have HA := Lib.hid h1
  have HB := Lib.hid h2
  have hcap1 := h1.cap
  have hmx1 := h1.max
  have hcap2 := h2.cap
  have hmx2 := h2.max
  unfold maxLen at hmx1 hmx2
  clear h1 h2
  go_enter Try.func33, Try.ntmps33
  go_wp2_with fail
  go_loopw [5] (fun iv wr => SrRel w n iv wr) (fun iv _ => n - (intOf iv).toNat)
  case atStart => exact ⟨0, by omega, rfl, Fr.refl _ _⟩
  case round =>
    obtain ⟨i, hi, rfl, hf⟩ := hrel
    by_cases hlt : i < n
    · obtain ⟨b1, o1, ad1, nd1, cd1, rfl, q1, s1⟩ := ActsAt.at4 (HA.out.keep hf (by simp)) hlt
      obtain ⟨b2, o2, ad2, nd2, cd2, rfl, q2, s2⟩ := ActsAt.at4 (HB.out.keep hf (by simp)) hlt
      generalize rs.getD i ⟨0, 0, 0, []⟩ = x at q1 q2 s1 s2
      obtain ⟨k, att, pick, data⟩ := x
      simp only at q1 q2 s1 s2
      have D0 : SrR w ad1 nd1 cd1 ad2 nd2 cd2 data wr.drew := ⟨s1.keep0 (Fr.refl _ _).drew, s2.keep0 (Fr.refl _ _).drew, hf.drew⟩
      have A0 := q1.keep (Fr.refl [] _).drew
      have B0 := q2.keep (Fr.refl [] _).drew
      clear q1 q2
      clear s1 s2 hf
      go_wp2_with fail
      go_region_held3 (fun w' => w'.cell? ⟨b1, o1 + i * 4, none⟩ = some (.int .i64 k) ∧ w'.cell? ⟨b1, o1 + i * 4 + 1, none⟩ = some (.int .i64 att) ∧ w'.cell? ⟨b1, o1 + i * 4 + 2, none⟩ = some (.int .i64 pick) ∧ w'.cell? ⟨b1, o1 + i * 4 + 3, none⟩ = some (.slice ad1 nd1 cd1) ∧ w'.cell? ⟨b2, o2 + i * 4, none⟩ = some (.int .i64 k) ∧ w'.cell? ⟨b2, o2 + i * 4 + 1, none⟩ = some (.int .i64 att) ∧ w'.cell? ⟨b2, o2 + i * 4 + 2, none⟩ = some (.int .i64 pick) ∧ w'.cell? ⟨b2, o2 + i * 4 + 3, none⟩ = some (.slice ad2 nd2 cd2))
        (first | (exact ⟨A3.c0, A3.c1, A3.c2, A3.c3, B3.c0, B3.c1, B3.c2, B3.c3⟩) | (exact ⟨A0.c0, A0.c1, A0.c2, A0.c3, B0.c0, B0.c1, B0.c2, B0.c3⟩))
        (first
          | (go_at_call 53; refine (eqAct_t _ k att pick ad1 ad2 nd1 cd1 nd2 cd2 data D0.s1 D0.s2).mono ?_; rintro e w3 ⟨rfl, f3⟩; have A3 := A0.keep f3; have B3 := B0.keep f3; have D3 := D0.keep f3))
      go_wp2_with fail
      exact ⟨⟨i + 1, by omega, by simp, D3.fr⟩, by simp [intOf]; omega⟩
    · obtain rfl : i = n := by omega
      have HF := Lib.hid hf
      clear hf
      go_wp2_with fail
      go_ret
      exact ⟨rfl, HF.out⟩
end Go.Proofs.Ytfgfhdkedmgfiaa
end

section
namespace Go.Sha
open Go.RowKit Go.Lib
/-- bytes of one's own stay while blocks of other kinds turn -/
theorem Ow.keepT {U : Nat} {S : List Nat} {w w' : World} {base c : Nat} {a : Option Addr} {l : Bs} (h : Ow w base U a c l) (hf : Fr S w w') (hS : ∀ k ∈ S, ∀ cur fz, w.heap[k]? ≠ some (.cells cur U fz)) : Ow w' base U a c l := by
  obtain ⟨h1, h2⟩ := h
  refine ⟨h1, ?_⟩
  rcases h2 with h2 | ⟨g, cap, cur, hv, hg, hh, r⟩
  · exact .inl h2
  · exact .inr ⟨g, cap, cur, hv, hg, hf.obj hh (fun hm => hS g hm _ _ hh), r⟩
/-- calls in memory of their own: n of them at the block g, of which the first ones are laid -/
structure AmI (U AT : Nat) (w : World) (base g n : Nat) (P : List (Actn × V3)) : Prop where
  row : ∃ cur, w.heap[g]? = some (.cells cur AT (0, 0)) ∧ cur.size = n * 4 ∧ cur.toList.take (P.length * 4) = P.flatMap acCells
  le : P.length ≤ n
  gb : base ≤ g
  dat : ∀ p ∈ P, Ow w base U p.2.1 p.2.2.2 p.1.data ∧ p.1.data.length = p.2.2.1 ∧ p.2.2.1 ≤ 140737488351232
section
variable {U AT : Nat} {w w' : World} {base g n : Nat} {P : List (Actn × V3)}
theorem AmI.keep0 (h : AmI U AT w base g n P) (hf : Fr [] w w') : AmI U AT w' base g n P := by
  obtain ⟨cur, h1, h2, h3⟩ := h.row
  exact ⟨⟨cur, hf.obj h1 (by simp), h2, h3⟩, h.le, h.gb, fun p hp => ⟨(h.dat p hp).1.keep0 hf, (h.dat p hp).2⟩⟩
theorem AmI.push (h : AmI U AT w base g n P) (hi : P.length < n) (hU : AT ≠ U) {cur : Array Value} (hcur : w.heap[g]? = some (.cells cur AT (0, 0))) (p : Actn × V3) (hp : Ow w base U p.2.1 p.2.2.2 p.1.data ∧ p.1.data.length = p.2.2.1 ∧ p.2.2.1 ≤ 140737488351232) (new : Array Value) (hnew : (cur.toList.take (P.length * 4) ++ acCells p ++ cur.toList.drop (P.length * 4 + (acCells p).length)).toArray = new) :
    AmI U AT (w.setRow g new) base g n (P ++ [p]) := by
  obtain ⟨cur', h1, h2, h3⟩ := h.row
  rw [hcur] at h1
  simp only [Option.some.injEq, Obj.cells.injEq, and_true] at h1
  subst h1
  have fC : Fr [g] w (w.setRow g new) := (Fr.refl _ _).setRow _ _ (.inr (by simp))
  have hS : ∀ k ∈ [g], ∀ cur fz, w.heap[k]? ≠ some (.cells cur U fz) := fun k hk cur' fz e => by
    simp only [List.mem_cons, List.not_mem_nil, or_false] at hk
    subst hk
    exact hU (tag_ne hcur e)
  have hl : (acCells p).length = 4 := rfl
  have hcl : cur.toList.length = n * 4 := by simpa using h2
  refine ⟨⟨new, setRow_heap _ _ _ _ _ _ hcur, ?_, ?_⟩, by simp; omega, h.gb, fun q hq => ?_⟩
  · rw [← hnew]
    simp only [List.size_toArray, List.length_append, List.length_take, List.length_drop, hcl, hl]
    omega
  · rw [← hnew, List.toList_toArray, List.length_append, List.length_cons, List.length_nil, Nat.zero_add, List.flatMap_append, ← h3]
    rw [List.take_append_of_le_length (by simp only [List.length_append, List.length_take, hcl, hl]; omega)]
    rw [List.take_of_length_le (by simp only [List.length_append, List.length_take, hcl, hl]; omega)]
    simp
  · rcases List.mem_append.1 hq with hq | hq
    · exact ⟨(h.dat q hq).1.keepT fC hS, (h.dat q hq).2⟩
    · simp only [List.mem_cons, List.not_mem_nil, or_false] at hq
      subst hq
      exact ⟨hp.1.keepT fC hS, hp.2⟩
theorem AmI.acts (h : AmI U AT w base g n P) (hn : P.length = n) (hm : n ≤ maxLen) : ActsAt w (some ⟨g, 0, none⟩) n n (P.map (·.1)) := by
  obtain ⟨cur, h1, h2, h3⟩ := h.row
  have e : cur = (P.flatMap acCells).toArray := by
    apply Array.toList_inj.1
    rw [← h3, hn, List.toList_toArray, List.take_of_length_le (by simp; omega)]
  subst e
  have := ActsAt.of_list P h1 (fun p hp => by
    have e := (h.dat p hp).1.sl
    rw [(h.dat p hp).2.1] at e
    exact ⟨e, (h.dat p hp).2.2⟩) (by rw [hn]; exact hm)
  rw [hn] at this
  exact this
end
end Go.Sha
namespace Go.Proofs.Ytfgfhdkedmgfiaa
open Go.ChangeShapes Go.WideShapes Go.ChangeAt Go.RowKit Go.Sha
set_option maxRecDepth 100000 in
set_option maxHeartbeats 1600000 in
theorem toAct_any (w : World) (k att pick : Int) (a : Option Addr) (n c : Nat) (l : Bs) (h : Sl w a n c l) (hn : n ≤ 140737488351232) :
    Calls Try.prog 51 #[.agg #[.int .i64 k, .int .i64 att, .int .i64 pick, .slice a n c]] w fun e w' => ∃ a' c', e = .returned (.agg #[.int .i64 k, .int .i64 att, .int .i64 pick, .slice a' n c']) ∧ Ow w' w.heap.size 5 a' c' l ∧ Fr [] w w' := by
  have f2 : Fr [] w (((w.alloc (.cells #[.int .i64 k, .int .i64 att, .int .i64 pick, .slice a n c] 74)).alloc (.cells #[.int .i64 0, .int .i64 0, .int .i64 0, .slice none 0 0] 26)).alloc (.cells #[.int .i64 k, .int .i64 att, .int .i64 pick, .slice none 0 0] 26)) := (((Fr.refl _ _).alloc _).alloc _).alloc _
  have z2 : ((w.alloc (.cells #[.int .i64 k, .int .i64 att, .int .i64 pick, .slice a n c] 74)).alloc (.cells #[.int .i64 0, .int .i64 0, .int .i64 0, .slice none 0 0] 26)).heap.size = w.heap.size + 1 + 1 := by simp
  have z3 : (((w.alloc (.cells #[.int .i64 k, .int .i64 att, .int .i64 pick, .slice a n c] 74)).alloc (.cells #[.int .i64 0, .int .i64 0, .int .i64 0, .slice none 0 0] 26)).alloc (.cells #[.int .i64 k, .int .i64 att, .int .i64 pick, .slice none 0 0] 26)).heap.size = w.heap.size + 3 := by simp
  have B2 : Hid ((((w.alloc (.cells #[.int .i64 k, .int .i64 att, .int .i64 pick, .slice a n c] 74)).alloc (.cells #[.int .i64 0, .int .i64 0, .int .i64 0, .slice none 0 0] 26)).alloc (.cells #[.int .i64 k, .int .i64 att, .int .i64 pick, .slice none 0 0] 26)).heap[w.heap.size + 1 + 1]? = some (.cells #[.int .i64 k, .int .i64 att, .int .i64 pick, .slice none 0 0] 26 (0, 0))) := by
    show _ = _
    rw [← z2]
    exact Go.heap_alloc_new _ _
  have z1 : (w.alloc (.cells #[.int .i64 k, .int .i64 att, .int .i64 pick, .slice a n c] 74)).heap.size = w.heap.size + 1 := by simp
  have C2 : Hid ((((w.alloc (.cells #[.int .i64 k, .int .i64 att, .int .i64 pick, .slice a n c] 74)).alloc (.cells #[.int .i64 0, .int .i64 0, .int .i64 0, .slice none 0 0] 26)).alloc (.cells #[.int .i64 k, .int .i64 att, .int .i64 pick, .slice none 0 0] 26)).heap[w.heap.size + 1]? = some (.cells #[.int .i64 0, .int .i64 0, .int .i64 0, .slice none 0 0] 26 (0, 0))) := by
    show _ = _
    rw [← z1]
    exact ((Fr.refl [] _).alloc _).obj (Go.heap_alloc_new _ _) (by simp)
  have F2 := Lib.hid f2
  have Z3 := Lib.hid z3
  have HL := Lib.hid h.len
  have HS := Lib.hid (h.keep0 f2)
  clear h f2 z1 z2 z3
  go_enter Try.func51, Try.ntmps51
  go_wp2_with fail
  generalize (((w.alloc (.cells #[.int .i64 k, .int .i64 att, .int .i64 pick, .slice a n c] 74)).alloc (.cells #[.int .i64 0, .int .i64 0, .int .i64 0, .slice none 0 0] 26)).alloc (.cells #[.int .i64 k, .int .i64 att, .int .i64 pick, .slice none 0 0] 26)) = w2 at F2 Z3 B2 C2 HS ⊢
  refine (toByteS_any a n c l _ HS.out (by omega)).mono ?_
  rintro e w3 ⟨a3, c3, rfl, O3, f3⟩
  rw [HL.out]
  have B3 := Lib.hid (f3.obj B2.out (by simp))
  obtain ⟨g, hg⟩ : ∃ g, g = w.heap.size + 1 + 1 := ⟨_, rfl⟩
  obtain ⟨g1, hg1⟩ : ∃ g1, g1 = w.heap.size + 1 := ⟨_, rfl⟩
  have HG := Lib.hid (And.intro hg hg1)
  have C3 := Lib.hid (f3.obj C2.out (by simp))
  rw [← hg] at B3 ⊢
  rw [← hg1] at C3 ⊢
  have hne : g1 ≠ g := by omega
  have hne' : g ≠ g1 := by omega
  have r0 : w3.cell? ⟨g, 0, none⟩ = some (.int .i64 k) := by rw [cell_of B3.out]; rfl
  have r1 : w3.cell? ⟨g, 1, none⟩ = some (.int .i64 att) := by rw [cell_of B3.out]; rfl
  have r2 : w3.cell? ⟨g, 2, none⟩ = some (.int .i64 pick) := by rw [cell_of B3.out]; rfl
  have r3 : w3.cell? ⟨g, 3, none⟩ = some (.slice none 0 0) := by rw [cell_of B3.out]; rfl
  have y3 : w3.frozen? ⟨g, 3, none⟩ = false := by simp [World.frozen?, B3.out]
  have s0 : w3.cell? ⟨g1, 0, none⟩ = some (.int .i64 0) := by rw [cell_of C3.out]; rfl
  have s1 : w3.cell? ⟨g1, 1, none⟩ = some (.int .i64 0) := by rw [cell_of C3.out]; rfl
  have s2 : w3.cell? ⟨g1, 2, none⟩ = some (.int .i64 0) := by rw [cell_of C3.out]; rfl
  have s3 : w3.cell? ⟨g1, 3, none⟩ = some (.slice none 0 0) := by rw [cell_of C3.out]; rfl
  have x0 : w3.frozen? ⟨g1, 0, none⟩ = false := by simp [World.frozen?, C3.out]
  have x1 : w3.frozen? ⟨g1, 1, none⟩ = false := by simp [World.frozen?, C3.out]
  have x2 : w3.frozen? ⟨g1, 2, none⟩ = false := by simp [World.frozen?, C3.out]
  have x3 : w3.frozen? ⟨g1, 3, none⟩ = false := by simp [World.frozen?, C3.out]
  have f4 : Fr [g] w3 (w3.setCell ⟨g, 3, none⟩ (.slice a3 n c3)) := (Fr.refl _ _).setCell _ _ (.inr (by simp))
  have F4 := (F2.out.trans f3).via f4 (fun q hq => by simp only [List.mem_cons, List.not_mem_nil, or_false] at hq; omega)
  have f5 := fr4 (w3.setCell ⟨g, 3, none⟩ (.slice a3 n c3)) g1 (.int .i64 k) (.int .i64 att) (.int .i64 pick) (.slice a3 n c3)
  have G9 := Lib.hid (heap4 (f4.obj C3.out (by simp only [List.mem_cons, List.not_mem_nil, or_false]; exact hne)) (.int .i64 k) (.int .i64 att) (.int .i64 pick) (.slice a3 n c3))
  have F5 := Lib.hid (F4.via f5 (fun q hq => by simp only [List.mem_cons, List.not_mem_nil, or_false] at hq; omega))
  have O4 := O3.keep f4 (fun q hq hm => by simp only [List.mem_cons, List.not_mem_nil, or_false] at hm; have := Z3.out; omega)
  have O5 := Lib.hid ((O4.keep f5 (fun q hq hm => by simp only [List.mem_cons, List.not_mem_nil, or_false] at hm; have := Z3.out; omega)).mono (show w.heap.size ≤ w2.heap.size by have := Z3.out; omega))
  clear hg hg1 O3 O4 f3 f4 f5 F4 B2 B3 C2 C3 HS
  go_wp2_with fail
  refine bodyPost_ret (v := .agg #[.int .i64 k, .int .i64 att, .int .i64 pick, .slice a3 n c3]) (results_cell_row rfl _ _ g1 _ _ _ _ rfl G9.out Try.underlying26 rfl sizeAT) rfl ?_
  exact ⟨a3, c3, rfl, O5.out, F5.out⟩
theorem infoAct : (Try.prog.info? 26).map (fun i => (i.zero, i.size, i.bytes)) = some (some (.agg #[.int .i64 0, .int .i64 0, .int .i64 0, .slice none 0 0]), 4, 48) := by kernel_rfl
theorem make_acts (n : Nat) (hn : n ≤ 1048576) : ∀ u : World, (Instr.makeSlice 29 (.int .i64 (n : Int)) (.int .i64 (n : Int))).run Try.prog u =
    .ok (.slice (some ⟨u.heap.size, 0, none⟩) n n) (u.alloc (.cells (madeCells #[.int .i64 0, .int .i64 0, .int .i64 0, .slice none 0 0] (n * 4)) 26)) := fun u => by
  obtain ⟨i0, hi, hz0, hz1, hz2⟩ := info_parts infoAct
  have h := run_make (P := Try.prog) u 29 26 i0 (.agg #[.int .i64 0, .int .i64 0, .int .i64 0, .slice none 0 0]) Try.underlying29 hi hz0 .i64 .i64 (n : Int) (n : Int) (by omega) (Int.le_refl _) (by rw [hz2]; omega) (by omega)
  have e : ((n : Int)).toNat = n := by omega
  rw [e] at h
  simpa [hz1, Value.cells] using h
theorem ActsAt.at4b {w : World} {a : Option Addr} {n c : Nat} {xs : List Actn} (h : ActsAt w a n c xs) {i : Nat} (hi : i < n) : ∃ b o ad nd cd, a = some ⟨b, o, none⟩ ∧ A4 b (o + i * 4) (xs.getD i ⟨0, 0, 0, []⟩).k (xs.getD i ⟨0, 0, 0, []⟩).at_ (xs.getD i ⟨0, 0, 0, []⟩).pick ad nd cd w ∧ Sl w ad nd cd (xs.getD i ⟨0, 0, 0, []⟩).data ∧ nd ≤ 140737488351232 := by
  rcases h.cel with h0 | ⟨b, o, ha, hc⟩
  · omega
  · obtain ⟨ad, nd, cd, h1, h2, h3, h4, h5, h6⟩ := hc i hi
    rw [show o + 4 * i = o + i * 4 by omega] at h1 h2 h3 h4
    exact ⟨b, o, ad, nd, cd, ha, ⟨h1, h2, h3, h4⟩, h5, h6⟩
def TsRel (w : World) (n : Nat) (xs : List Actn) (iv : Value) (wr : World) : Prop :=
  ∃ i P, i ≤ n ∧ iv = .int .i64 ((i : Nat) : Int) ∧ AmI 5 26 wr w.heap.size w.heap.size n P ∧ P.length = i ∧ P.map (·.1) = xs.take i ∧ Fr [] w wr
/-- what toActS returns -/
def TsR (n : Nat) (xs : List Actn) (w : World) (e : Ending) (w' : World) : Prop := ∃ P, e = .returned (.slice (some ⟨w.heap.size, 0, none⟩) n n) ∧ AmI 5 26 w' w.heap.size w.heap.size n P ∧ P.length = n ∧ P.map (·.1) = xs ∧ Fr [] w w'
set_option maxRecDepth 100000 in
set_option maxHeartbeats 1600000 in
theorem toActS_any (w : World) (a : Option Addr) (n c : Nat) (xs : List Actn) (h : ActsAt w a n c xs) (hn : n ≤ 1048576) :
    Calls Try.prog 31 #[.slice a n c] w (TsR n xs w) := by
  have HA := Lib.hid h
  have hcap := h.cap
  have hmx := h.max
  unfold maxLen at hmx
  have hmk := make_acts n hn
  clear h
  have I0 : Hid (AmI 5 26 (w.alloc (.cells (madeCells #[.int .i64 0, .int .i64 0, .int .i64 0, .slice none 0 0] (n * 4)) 26)) w.heap.size w.heap.size n []) := ⟨⟨_, Go.heap_alloc_new w _, by simp [size_madeCells], rfl⟩, Nat.zero_le _, Nat.le_refl _, fun p hp => by cases hp⟩
  go_enter Try.func31, Try.ntmps31
  go_wp2
  clear hmk
  go_loopw [4] (fun iv wr => TsRel w n xs iv wr) (fun iv _ => n - (intOf iv).toNat)
  case atStart => exact ⟨0, [], by omega, rfl, I0.out, rfl, rfl, (Fr.refl _ _).alloc _⟩
  case round =>
    clear I0
    obtain ⟨i, P, hi, rfl, hI, hP, hx, hf⟩ := hrel
    by_cases hlt : i < n
    · obtain ⟨b, ob, ad, nd, cd, rfl, q, s, hnd⟩ := ActsAt.at4b (HA.out.keep hf (by simp)) hlt
      have e7 : xs.take (i + 1) = xs.take i ++ [xs.getD i ⟨0, 0, 0, []⟩] := by
        rw [List.take_succ_eq_append_getElem (by rw [HA.out.len]; exact hlt), List.getD_eq_getElem?_getD, List.getElem?_eq_getElem (by rw [HA.out.len]; exact hlt)]
        rfl
      generalize xs.getD i ⟨0, 0, 0, []⟩ = x at q s e7
      obtain ⟨k, att, pick, data⟩ := x
      simp only at q s
      obtain ⟨p0, p1, p2, p3⟩ := q
      have HE7 := Lib.hid e7
      have HI := Lib.hid hI
      have HP := Lib.hid hP
      have HX := Lib.hid hx
      have HF := Lib.hid hf
      have HS := Lib.hid s
      clear e7 hI hP hx hf s
      go_wp2_with fail
      refine (toAct_any wr k att pick ad nd cd data HS.out hnd).mono ?_
      rintro e w3 ⟨a3, c3, rfl, O3, f3⟩
      have HL := Lib.hid HS.out.len
      obtain ⟨g, hg⟩ : ∃ g, g = w.heap.size := ⟨_, rfl⟩
      have I3 := Lib.hid (HI.out.keep0 f3)
      have F3 := HF.out.trans f3
      have O3w := Lib.hid (O3.mono (show w.heap.size ≤ wr.heap.size from HF.out.size))
      obtain ⟨cur, hcur, hcs, _⟩ := I3.out.row
      rw [← hg] at hcur ⊢
      have HG := Lib.hid hg
      have HCU := Lib.hid hcur
      have hcz : i * 4 + 4 ≤ cur.size := by omega
      obtain ⟨new, hnew⟩ : ∃ new, (cur.toList.take (i * 4) ++ ([.int .i64 k, .int .i64 att, .int .i64 pick, .slice a3 nd c3] : List Value) ++ cur.toList.drop (i * 4 + ([.int .i64 k, .int .i64 att, .int .i64 pick, .slice a3 nd c3] : List Value).length)).toArray = new := ⟨_, rfl⟩
      have HNW := Lib.hid hnew
      clear p0 p1 p2 p3 O3 HI HF hg hcur hcs hnew f3
      go_wp2_with (refine wpList_store_at rfl _ _ _ rfl g (i * 4) rfl 26 (.agg #[.int .i64 k, .int .i64 att, .int .i64 pick, .slice a3 nd c3]) ([.int .i64 k, .int .i64 att, .int .i64 pick, .slice a3 nd c3] : List Value) cur new rfl rfl HCU.out hcz (by intro u hu; simp only [List.mem_cons, List.not_mem_nil, or_false] at hu; rcases hu with rfl | rfl | rfl | rfl <;> rfl) sizeAT HNW.out ?_; refine Hid.out ?_)
      show wpList _ _ _ _ _ _
      have f4 : Fr [g] w3 (w3.setRow g new) := (Fr.refl _ _).setRow _ _ (.inr (by simp))
      have F4 := Lib.hid (F3.via f4 (fun q hq => by simp only [List.mem_cons, List.not_mem_nil, or_false] at hq; have := HG.out; omega))
      have I4 : Hid (AmI 5 26 (w3.setRow g new) w.heap.size w.heap.size n (P ++ [(⟨k, att, pick, data⟩, (a3, nd, c3))])) := by
        have e := I3.out
        rw [← HG.out] at e ⊢
        exact e.push (by rw [HP.out]; exact hlt) (by decide) HCU.out (⟨k, att, pick, data⟩, (a3, nd, c3)) ⟨by rw [HG.out]; exact O3w.out, HL.out, hnd⟩ new (by rw [HP.out]; exact HNW.out)
      generalize w3.setRow g new = w4 at f4 F4 I4 ⊢
      clear F3 f4 I3 HCU HNW hcz
      have hg := HG.out
      clear HG
      subst hg
      go_wp2_with fail
      exact ⟨⟨i + 1, P ++ [_], by omega, by simp, I4.out, by simp [HP.out], by simp [HX.out, HE7.out], F4.out⟩, by simp [intOf]; omega⟩
    · obtain rfl : i = n := by omega
      have HF := Lib.hid hf
      rw [List.take_of_length_le (by rw [HA.out.len]; exact Nat.le_refl _)] at hx
      clear hf
      go_wp2_with fail
      go_ret
      exact ⟨P, rfl, hI, hP, hx, HF.out⟩
end Go.Proofs.Ytfgfhdkedmgfiaa
end

section
namespace Go.Sha
open Go.RowKit Go.Lib
/-- bytes that can be marked -/
structure MkB (U : Nat) (w : World) (v : V3) : Prop where
  cap : v.2.1 ≤ v.2.2
  max : v.2.2 ≤ 9223372036854775807
  blk : v.2.1 = 0 ∨ ∃ g cur, v.1 = some ⟨g, 0, none⟩ ∧ w.heap[g]? = some (.cells cur U (0, 0)) ∧ v.2.1 ≤ cur.size
/-- bytes have been marked: blocks of bytes keep their sizes, other blocks stay -/
structure Mkd (U : Nat) (a : Option Addr) (w w' : World) : Prop where
  fr : Fr (blkOf a) w w'
  sz : ∀ (q : Nat) (cur : Array Value), w.heap[q]? = some (.cells cur U (0, 0)) → ∃ cur' : Array Value, w'.heap[q]? = some (.cells cur' U (0, 0)) ∧ cur'.size = cur.size
  ot : ∀ (q T : Nat) (cur : Array Value) (fz : Nat × Nat), T ≠ U → w.heap[q]? = some (.cells cur T fz) → w'.heap[q]? = some (.cells cur T fz)
theorem Mkd.refl (U : Nat) (a : Option Addr) (w : World) : Mkd U a w w := ⟨Fr.refl _ _, fun _ cur h => ⟨cur, h, rfl⟩, fun _ _ _ _ _ h => h⟩
theorem MkB.mkd {U : Nat} {w w' : World} {v : V3} {a : Option Addr} (h : MkB U w v) (m : Mkd U a w w') : MkB U w' v := by
  refine ⟨h.cap, h.max, ?_⟩
  rcases h.blk with h0 | ⟨g, cur, h1, h2, h3⟩
  · exact .inl h0
  · obtain ⟨cur', h4, h5⟩ := m.sz g cur h2
    exact .inr ⟨g, cur', h1, h4, by omega⟩
/-- a row of calls whose bytes can be marked -/
structure MaI (U AT : Nat) (w : World) (g n : Nat) (vs : List V3) : Prop where
  len : vs.length = n
  row : ∃ cur, w.heap[g]? = some (.cells cur AT (0, 0)) ∧ cur.size = n * 4 ∧ ∀ j v, vs[j]? = some v → cur[j * 4 + 3]? = some (.slice v.1 v.2.1 v.2.2)
  bts : ∀ v ∈ vs, MkB U w v
section
variable {U AT : Nat} {w w' : World} {g n : Nat} {vs : List V3}
theorem MaI.mkd {a : Option Addr} (h : MaI U AT w g n vs) (m : Mkd U a w w') (hU : AT ≠ U) : MaI U AT w' g n vs := by
  obtain ⟨cur, h1, h2⟩ := h.row
  exact ⟨h.len, ⟨cur, m.ot g AT cur _ hU h1, h2⟩, fun v hv => (h.bts v hv).mkd m⟩
theorem MaI.set (h : MaI U AT w g n vs) (hU : AT ≠ U) (i t : Nat) (ht : t < 3) (x : Value) : MaI U AT (w.setCell ⟨g, i * 4 + t, none⟩ x) g n vs := by
  obtain ⟨cur, h1, h2, h3⟩ := h.row
  refine ⟨h.len, ⟨_, Go.Sha.heap_setCell_same h1 _, by simpa using h2, fun j v hj => ?_⟩, fun v hv => ⟨(h.bts v hv).cap, (h.bts v hv).max, ?_⟩⟩
  · rw [Array.getElem?_setIfInBounds_ne (by omega)]
    exact h3 j v hj
  · rcases (h.bts v hv).blk with h0 | ⟨b, cb, k1, k2, k3⟩
    · exact .inl h0
    · refine .inr ⟨b, cb, k1, ?_, k3⟩
      have hb : b ∉ [g] := fun e => by
        simp only [List.mem_cons, List.not_mem_nil, or_false] at e
        subst e
        exact hU (tag_ne h1 k2)
      exact ((Fr.refl [g] w).setCell ⟨g, i * 4 + t, none⟩ x (.inr (by simp))).obj k2 hb
theorem AmI.ma {P : List (Actn × V3)} {base : Nat} (h : AmI U AT w base g n P) (hn : P.length = n) : MaI U AT w g n (P.map (·.2)) := by
  obtain ⟨cur, h1, h2, h3⟩ := h.row
  refine ⟨by simpa using hn, ⟨cur, h1, h2, fun j v hj => ?_⟩, fun v hv => ?_⟩
  · rw [List.getElem?_map] at hj
    cases hp : P[j]? with
    | none => rw [hp] at hj; cases hj
    | some p =>
      rw [hp] at hj
      simp only [Option.map_some, Option.some.injEq] at hj
      subst hj
      have hjl := (List.getElem?_eq_some_iff.1 hp).1
      have e := flatMap_getN acCells 4 (fun _ => rfl) P j 3 (by decide)
      rw [hp, Option.bind_some, ← h3, List.getElem?_take_of_lt (by omega), Array.getElem?_toList] at e
      exact e
  · obtain ⟨p, hp, rfl⟩ := List.mem_map.1 hv
    obtain ⟨h4, h5, h6⟩ := h.dat p hp
    have h7 := h4.sl.cap
    have h8 := h4.sl.max
    unfold maxLen at h8
    refine ⟨by omega, by omega, ?_⟩
    by_cases h0 : p.2.2.1 = 0
    · exact .inl h0
    · obtain ⟨b, cb, k1, k2, k3, k4, k5, k6, k7⟩ := h4.open (by omega)
      exact .inr ⟨b, cb, k1, k3, by omega⟩
/-- where the bytes of calls of one's own lie -/
theorem AmI.lie {P : List (Actn × V3)} {base : Nat} (h : AmI U AT w base g n P) : ∀ q ∈ g :: (P.map (·.2)).flatMap (fun v => blkOf v.1), base ≤ q ∧ q < w.heap.size := fun q hq => by
  obtain ⟨cur, h1, _⟩ := h.row
  rcases List.mem_cons.1 hq with rfl | hq
  · exact ⟨h.gb, (Array.getElem?_eq_some_iff.1 h1).1⟩
  · obtain ⟨v, hv, hm⟩ := List.mem_flatMap.1 hq
    obtain ⟨p, hp, rfl⟩ := List.mem_map.1 hv
    obtain ⟨x, hx, rfl⟩ := mem_blkOf.1 hm
    have h4 := (h.dat p hp).1
    rw [hx] at h4
    exact ⟨h4.block.2.2.1, h4.block.2.2.2⟩
end
/-- the number behind i calls -/
def kA (k : Nat) (vs : List V3) (i : Nat) : Nat := k + 3 * i + ((vs.take i).map (·.2.1)).sum
theorem kA_succ (k : Nat) (vs : List V3) (i : Nat) (v : V3) (h : vs[i]? = some v) : kA k vs (i + 1) = kA k vs i + 3 + v.2.1 := by
  have hi := (List.getElem?_eq_some_iff.1 h).1
  have e : vs.take (i + 1) = vs.take i ++ [v] := by
    rw [List.take_succ_eq_append_getElem hi, (List.getElem?_eq_some_iff.1 h).2]
  unfold kA
  rw [e, List.map_append, List.sum_append]
  simp
  omega
end Go.Sha
namespace Go.Proofs.Ytfgfhdkedmgfiaa
open Go.ChangeShapes Go.WideShapes Go.ChangeAt Go.RowKit Go.Sha
theorem markNone (w : World) (a : Option Addr) (c k : Nat) (_ : k ≤ 1099511627776) (_ : c ≤ 9223372036854775807) :
    Calls Try.prog 54 #[.slice a 0 c, .int .i64 (k : Int)] w fun e w' => e = .returned (.int .i64 ((k + 0 : Nat) : Int)) ∧ w' = w := by
  go_enter Try.func54, Try.ntmps54
  go_wp2_with fail
  go_loop [1, 5] (fun kv iv => kv = .int .i64 (k : Int) ∧ iv = .int .i64 0) (fun _ _ => 0)
  case atStart => exact ⟨rfl, rfl⟩
  case round =>
    obtain ⟨rfl, rfl⟩ := hrel
    go_wp2_with fail
    go_ret
    exact ⟨rfl, rfl⟩
theorem markMk (w : World) (v : V3) (k : Nat) (h : MkB 5 w v) (hk : k + v.2.1 ≤ 1099511627776) :
    Calls Try.prog 54 #[.slice v.1 v.2.1 v.2.2, .int .i64 (k : Int)] w fun e w' => e = .returned (.int .i64 ((k + v.2.1 : Nat) : Int)) ∧ Mkd 5 v.1 w w' := by
  obtain ⟨a, n, c⟩ := v
  have hc := h.cap
  have hm := h.max
  simp only at hc hm hk ⊢
  by_cases h0 : n = 0
  · subst h0
    refine (markNone w a c k (by omega) hm).mono ?_
    rintro e w' ⟨rfl, rfl⟩
    exact ⟨rfl, Mkd.refl _ _ _⟩
  · rcases h.blk with h1 | ⟨g, cur, h1, h2, h3⟩
    · exact absurd h1 h0
    · simp only at h1 h3
      subst h1
      refine (markByteS_any w g 5 cur n c k h2 h3 hc hm hk).mono ?_
      rintro e w' ⟨rfl, b, f⟩
      refine ⟨rfl, ⟨f.mono (fun q _ hq => by simp only [List.mem_cons, List.not_mem_nil, or_false] at hq; rw [hq]; exact mem_blkOf.2 ⟨_, rfl, rfl⟩), fun q cq hq => ?_, fun q T cq fz hT hq => ?_⟩⟩
      · by_cases e : q = g
        · subst e
          rw [h2] at hq
          simp only [Option.some.injEq, Obj.cells.injEq, and_true] at hq
          subst hq
          exact ⟨_, b, splice_size _ _ _ (by rw [marks_length]; omega)⟩
        · exact ⟨cq, f.obj hq (by simpa using e), rfl⟩
      · refine f.obj hq (fun e => ?_)
        simp only [List.mem_cons, List.not_mem_nil, or_false] at e
        subst e
        exact hT (tag_ne hq h2)
def MaRel (w : World) (g n : Nat) (vs : List V3) (k : Nat) (kv iv : Value) (wr : World) : Prop :=
  ∃ i, i ≤ n ∧ kv = .int .i64 ((kA k vs i : Nat) : Int) ∧ iv = .int .i64 ((i : Nat) : Int) ∧ MaI 5 26 wr g n vs ∧ Fr (g :: vs.flatMap (fun v => blkOf v.1)) w wr
set_option maxRecDepth 100000 in
set_option maxHeartbeats 1600000 in
theorem markActS_any (w : World) (g n k : Nat) (vs : List V3) (h : MaI 5 26 w g n vs) (hn : n ≤ 1048576) (hk : ∀ i, i ≤ n → kA k vs i ≤ 109951162777) :
    Calls Try.prog 34 #[.slice (some ⟨g, 0, none⟩) n n, .int .i64 (k : Int)] w fun e w' => e = .returned (.int .i64 ((kA k vs n : Nat) : Int)) ∧ Fr (g :: vs.flatMap (fun v => blkOf v.1)) w w' := by
  have HM := Lib.hid h
  have HK := Lib.hid hk
  clear h hk
  go_enter Try.func34, Try.ntmps34
  go_wp2_with fail
  go_loopw [1, 5] (fun kv iv wr => MaRel w g n vs k kv iv wr) (fun _ iv _ => n - (intOf iv).toNat)
  case atStart => exact ⟨0, by omega, by simp [kA], rfl, HM.out, Fr.refl _ _⟩
  case round =>
    clear HM
    obtain ⟨i, hi, rfl, rfl, hI, hf⟩ := hrel
    by_cases hlt : i < n
    · obtain ⟨v, hv⟩ : ∃ v, vs[i]? = some v := ⟨_, List.getElem?_eq_getElem (by rw [hI.len]; exact hlt)⟩
      have hmem : v ∈ vs := List.mem_of_getElem? hv
      have hkk := HK.out (i + 1) hlt
      have hks := kA_succ k vs i v hv
      obtain ⟨cur, hcur, hcs, hc3⟩ := hI.row
      have HC3 := hc3 i v hv
      have hcz : i * 4 + 3 < cur.size := by omega
      have p0 : wr.cell? ⟨g, i * 4, none⟩ = some (cur[i * 4]'(by omega)) := by rw [cell_of hcur]; exact Array.getElem?_eq_getElem _
      have p1 : wr.cell? ⟨g, i * 4 + 1, none⟩ = some (cur[i * 4 + 1]'(by omega)) := by rw [cell_of hcur]; exact Array.getElem?_eq_getElem _
      have p2 : wr.cell? ⟨g, i * 4 + 2, none⟩ = some (cur[i * 4 + 2]'(by omega)) := by rw [cell_of hcur]; exact Array.getElem?_eq_getElem _
      have p3 : wr.cell? ⟨g, i * 4 + 3, none⟩ = some (.slice v.1 v.2.1 v.2.2) := by rw [cell_of hcur]; exact HC3
      have y0 : wr.frozen? ⟨g, i * 4, none⟩ = false := by simp [World.frozen?, hcur]
      have y1 : wr.frozen? ⟨g, i * 4 + 1, none⟩ = false := by simp [World.frozen?, hcur]
      have y2 : wr.frozen? ⟨g, i * 4 + 2, none⟩ = false := by simp [World.frozen?, hcur]
      generalize (cur[i * 4]'(by omega)) = v0 at p0
      generalize (cur[i * 4 + 1]'(by omega)) = v1 at p1
      generalize (cur[i * 4 + 2]'(by omega)) = v2 at p2
      obtain ⟨z, hz⟩ : ∃ z, z = kA k vs i := ⟨_, rfl⟩
      rw [← hz] at hks ⊢
      rw [hks] at hkk
      have I3 : Hid (MaI 5 26 (((wr.setCell ⟨g, i * 4, none⟩ (.int .i64 (z : Int))).setCell ⟨g, i * 4 + 1, none⟩ (.int .i64 ((z : Int) + 1))).setCell ⟨g, i * 4 + 2, none⟩ (.int .i64 ((z : Int) + 1 + 1))) g n vs) := ((hI.set (by decide) i 0 (by decide) _).set (by decide) i 1 (by decide) _).set (by decide) i 2 (by decide) _
      have F3 : Hid (Fr (g :: vs.flatMap (fun v => blkOf v.1)) w (((wr.setCell ⟨g, i * 4, none⟩ (.int .i64 (z : Int))).setCell ⟨g, i * 4 + 1, none⟩ (.int .i64 ((z : Int) + 1))).setCell ⟨g, i * 4 + 2, none⟩ (.int .i64 ((z : Int) + 1 + 1)))) := ((hf.setCell _ _ (.inr (by simp))).setCell _ _ (.inr (by simp))).setCell _ _ (.inr (by simp))
      have HMM := Lib.hid hmem
      have HKS := Lib.hid hks
      obtain ⟨av, nv, cv⟩ := v
      simp only at hkk p3
      clear hI hf hcur hcs hc3 HC3 hcz hv hmem hks hz
      go_wp2_with fail
      generalize ((wr.setCell ⟨g, i * 4, none⟩ (.int .i64 (z : Int))).setCell ⟨g, i * 4 + 1, none⟩ (.int .i64 ((z : Int) + 1))).setCell ⟨g, i * 4 + 2, none⟩ (.int .i64 ((z : Int) + 1 + 1)) = w3 at I3 F3 ⊢
      rw [show (z : Int) + 1 + 1 + 1 = ((z + 3 : Nat) : Int) by omega]
      refine (markMk w3 (av, nv, cv) (z + 3) (I3.out.bts _ HMM.out) (by simp only; omega)).mono ?_
      rintro e w4 ⟨rfl, m4⟩
      have I4 := Lib.hid (I3.out.mkd m4 (by decide))
      have F4 := Lib.hid (F3.out.trans (m4.fr.mono (fun q _ hq => List.mem_cons_of_mem _ (List.mem_flatMap.2 ⟨_, HMM.out, hq⟩))))
      simp only
      clear p0 p1 p2 p3 y0 y1 y2 m4 I3 F3
      go_wp2_with fail
      exact ⟨⟨i + 1, by omega, by rw [HKS.out], by simp, I4.out, F4.out⟩, by simp [intOf]; omega⟩
    · obtain rfl : i = n := by omega
      have HF := Lib.hid hf
      clear hf hI
      have HKI := HK.out i (Nat.le_refl _)
      go_wp2_with fail
      go_ret
      exact ⟨rfl, HF.out⟩
end Go.Proofs.Ytfgfhdkedmgfiaa
end

section
namespace Go.Sha
open Go.RowKit Go.Lib
/-- the number behind i results -/
def kR (k : Nat) (ls : List Nat) (i : Nat) : Nat := k + 3 * i + (ls.take i).sum
theorem kR_succ (k : Nat) (ls : List Nat) (i l : Nat) (h : ls[i]? = some l) : kR k ls (i + 1) = kR k ls i + 3 + l := by
  have hi := (List.getElem?_eq_some_iff.1 h).1
  have e : ls.take (i + 1) = ls.take i ++ [l] := by
    rw [List.take_succ_eq_append_getElem hi, (List.getElem?_eq_some_iff.1 h).2]
  unfold kR
  rw [e, List.sum_append]
  simp
  omega
/-- a result that is marked from a number on -/
def mk1 (k l : Nat) : Res := ⟨(k : Int), marks (k + 1) l, decide ((k + 1 + l) % 3 = 0), decide ((k + 2 + l) % 3 = 0)⟩
theorem zip_set {α β : Type} (l : List α) (m : List β) (i : Nat) (x : α) (y : β) (h : m[i]? = some y) : (l.set i x).zip m = (l.zip m).set i (x, y) := by
  induction l generalizing m i with
  | nil => simp
  | cons a l ih =>
    cases m with
    | nil => simp
    | cons b m =>
      cases i with
      | zero => simp only [List.getElem?_cons_zero, Option.some.injEq] at h; subst h; rfl
      | succ i => simp only [List.set_cons_succ, List.zip_cons_cons, ih m i (by simpa using h)]
theorem getD_set_self {α : Type} (l : List α) (i : Nat) (x d : α) (h : i < l.length) : (l.set i x).getD i d = x := by simp [List.getD_eq_getElem?_getD, h]
theorem getD_set_other {α : Type} (l : List α) (i j : Nat) (x d : α) (h : i ≠ j) : (l.set i x).getD j d = l.getD j d := by simp [List.getD_eq_getElem?_getD, List.getElem?_set_ne h]
section
variable {RT U : Nat} {w w' : World} {base : Nat} {a : Option Addr} {n c g : Nat} {rs : List Res} {vs : List (Option Addr × Nat)}
/-- the cells of a result that can be written -/
theorem RsI.row4 (h : RsI RT U w base [] a n c rs vs) {i : Nat} (hi : i < n) :
    ∃ g, a = some ⟨g, 0, none⟩ ∧ n ≤ c ∧ c ≤ maxLen ∧ w.cell? ⟨g, i * 4, none⟩ = some (.int .i64 (rs.getD i ⟨0, [], false, false⟩).n) ∧ w.cell? ⟨g, i * 4 + 1, none⟩ = some (.slice (vs.getD i (none, 0)).1 (rs.getD i ⟨0, [], false, false⟩).data.length (vs.getD i (none, 0)).2) ∧ w.cell? ⟨g, i * 4 + 2, none⟩ = some (.bool (rs.getD i ⟨0, [], false, false⟩).ok) ∧ w.cell? ⟨g, i * 4 + 3, none⟩ = some (.bool (rs.getD i ⟨0, [], false, false⟩).pan) ∧ ∀ k, w.frozen? ⟨g, k, none⟩ = false := by
  obtain ⟨g, rfl, h1, h2, hc⟩ := h.cells (show 0 < n by omega)
  have e0 := hc i hi 0 (by decide)
  have e1 := hc i hi 1 (by decide)
  have e2 := hc i hi 2 (by decide)
  have e3 := hc i hi 3 (by decide)
  rw [show 4 * i = i * 4 by omega] at e0 e1 e2 e3
  refine ⟨g, rfl, h1, h2, e0, e1, e2, e3, fun k => ?_⟩
  rcases h.row.2 with ⟨h3, _⟩ | ⟨g', cap, cur, hv, hb', hg, _⟩
  · simp at h3
  · simp only [Value.slice.injEq, Option.some.injEq, Addr.mk.injEq] at hv
    obtain ⟨⟨rfl, _, _⟩, _, _⟩ := hv
    simp [World.frozen?, hg]
/-- a cell of a result turns, not its bytes -/
theorem RsI.setF (h : RsI RT U w base [] (some ⟨g, 0, none⟩) n c rs vs) {i j : Nat} (hi : i < n) (hj : j < 4) (x : Res) (u : Value) (hd : x.data = (rs.getD i ⟨0, [], false, false⟩).data) (hu : resCells (x, vs.getD i (none, 0)) = (resCells (rs.getD i ⟨0, [], false, false⟩, vs.getD i (none, 0))).set j u) :
    RsI RT U (w.setCell ⟨g, i * 4 + j, none⟩ u) base [] (some ⟨g, 0, none⟩) n c (rs.set i x) vs := by
  have hv : vs[i]? = some (vs.getD i (none, 0)) := by rw [List.getD_eq_getElem?_getD, List.getElem?_eq_getElem (by rw [h.vlen]; exact hi)]; rfl
  have hr : rs[i]? = some (rs.getD i ⟨0, [], false, false⟩) := by rw [List.getD_eq_getElem?_getD, List.getElem?_eq_getElem (by rw [h.len]; exact hi)]; rfl
  have fC : Fr [g] w (w.setCell ⟨g, i * 4 + j, none⟩ u) := (Fr.refl _ _).setCell _ _ (.inr (by simp))
  refine ⟨by simpa using h.len, h.vlen, ?_, (fun x hx hm => by cases hm), fun q hq => ?_, fun q hq y hy => ⟨(fun hm => by cases hm), (h.ownS q hq y hy).2⟩, h.ne⟩
  · have e := ownsRow_set h.row (i * 4 + j) u
    rw [zip_set rs vs i x _ hv]
    rw [flatMap_setN resCells 4 resCells_len (rs.zip vs) i j hj (rs.getD i ⟨0, [], false, false⟩, vs.getD i (none, 0)) (x, vs.getD i (none, 0)) u (by rw [List.getElem?_zip_eq_some]; exact ⟨hr, hv⟩) hu] at e
    exact e
  · have e : ((rs.set i x).getD q ⟨0, [], false, false⟩).data = (rs.getD q ⟨0, [], false, false⟩).data := by
      by_cases e : i = q
      · subst e
        rw [getD_set_self _ _ _ _ (by rw [h.len]; exact hi), hd]
      · rw [getD_set_other _ _ _ _ _ e]
    rw [e]
    obtain ⟨h1, h2⟩ := h.own q hq
    refine ⟨h1, ?_⟩
    rcases h2 with h2 | ⟨b, cap, cur, hvv, hg, hh, r⟩
    · exact .inl h2
    · refine .inr ⟨b, cap, cur, hvv, hg, fC.obj hh (fun hm => ?_), r⟩
      simp only [List.mem_cons, List.not_mem_nil, or_false] at hm
      simp only [Value.slice.injEq] at hvv
      exact (h.ownS q hq ⟨b, 0, none⟩ hvv.1).2 _ rfl hm
/-- the bytes of a result turn -/
theorem RsI.setD (h : RsI RT U w base [] (some ⟨g, 0, none⟩) n c rs vs) {i : Nat} (hi : i < n) (x : Res) (fC : Fr (blkOf (vs.getD i (none, 0)).1) w w') (hl : x.data.length = (rs.getD i ⟨0, [], false, false⟩).data.length) (h1 : x.n = (rs.getD i ⟨0, [], false, false⟩).n) (h2 : x.ok = (rs.getD i ⟨0, [], false, false⟩).ok) (h3 : x.pan = (rs.getD i ⟨0, [], false, false⟩).pan) (hO : Ow w' base U (vs.getD i (none, 0)).1 (vs.getD i (none, 0)).2 x.data) :
    RsI RT U w' base [] (some ⟨g, 0, none⟩) n c (rs.set i x) vs := by
  have hv : vs[i]? = some (vs.getD i (none, 0)) := by rw [List.getD_eq_getElem?_getD, List.getElem?_eq_getElem (by rw [h.vlen]; exact hi)]; rfl
  have hr : rs[i]? = some (rs.getD i ⟨0, [], false, false⟩) := by rw [List.getD_eq_getElem?_getD, List.getElem?_eq_getElem (by rw [h.len]; exact hi)]; rfl
  have hcel : resCells (x, vs.getD i (none, 0)) = resCells (rs.getD i ⟨0, [], false, false⟩, vs.getD i (none, 0)) := by simp only [resCells, hl, h1, h2, h3]
  refine ⟨by simpa using h.len, h.vlen, ?_, (fun x hx hm => by cases hm), fun q hq => ?_, fun q hq y hy => ⟨(fun hm => by cases hm), (h.ownS q hq y hy).2⟩, h.ne⟩
  · have e : ((rs.set i x).zip vs).flatMap resCells = (rs.zip vs).flatMap resCells := by
      rw [zip_set rs vs i x _ hv]
      have e0 := flatMap_setN resCells 4 resCells_len (rs.zip vs) i 0 (by decide) (rs.getD i ⟨0, [], false, false⟩, vs.getD i (none, 0)) (x, vs.getD i (none, 0)) (.int .i64 x.n) (by rw [List.getElem?_zip_eq_some]; exact ⟨hr, hv⟩) (by rw [hcel, h1]; rfl)
      rw [← e0]
      have e1 := flatMap_getN resCells 4 resCells_len (rs.zip vs) i 0 (by decide)
      rw [show (rs.zip vs)[i]? = some (rs.getD i ⟨0, [], false, false⟩, vs.getD i (none, 0)) by rw [List.getElem?_zip_eq_some]; exact ⟨hr, hv⟩] at e1
      apply List.ext_getElem?
      intro k
      by_cases hk : i * 4 + 0 = k
      · subst hk
        have hlt : i * 4 + 0 < ((rs.zip vs).flatMap resCells).length := by
          rcases Nat.lt_or_ge (i * 4 + 0) ((rs.zip vs).flatMap resCells).length with h9 | h9
          · exact h9
          · rw [List.getElem?_eq_none h9] at e1
            simp [resCells] at e1
        rw [List.getElem?_set_self hlt, e1, h1]
        rfl
      · rw [List.getElem?_set_ne hk]
    rw [e]
    exact ownsRow_keep h.row fC (fun k hk hm => by
      obtain ⟨y, hy, rfl⟩ := mem_blkOf.1 hm
      simp only [Value.ownBlock, Option.some.injEq] at hk
      exact (h.ownS i hi y hy).2 _ rfl hk.symm)
  · by_cases e : i = q
    · subst e
      rw [getD_set_self _ _ _ _ (by rw [h.len]; exact hi)]
      exact hO
    · rw [getD_set_other _ _ _ _ _ e]
      obtain ⟨h1, h2⟩ := h.own q hq
      refine ⟨h1, ?_⟩
      rcases h2 with h2 | ⟨b, cap, cur, hvv, hg, hh, r⟩
      · exact .inl h2
      · refine .inr ⟨b, cap, cur, hvv, hg, fC.obj hh (fun hm => ?_), r⟩
        obtain ⟨y, hy, e9⟩ := mem_blkOf.1 hm
        simp only [Value.slice.injEq] at hvv
        exact h.ne i q hi hq e y ⟨b, 0, none⟩ hy hvv.1 e9
end
end Go.Sha
namespace Go.Proofs.Ytfgfhdkedmgfiaa
open Go.ChangeShapes Go.WideShapes Go.ChangeAt Go.RowKit Go.Sha
theorem markOwD (w : World) (base n c k : Nat) (a : Option Addr) (l : Bs) (h : Ow w base 5 a c l) (hl : l.length = n) (hk : k + n ≤ 1099511627776) :
    Calls Try.prog 54 #[.slice a n c, .int .i64 (k : Int)] w fun e w' => e = .returned (.int .i64 ((k + n : Nat) : Int)) ∧ Ow w' base 5 a c (marks k n) ∧ Fr (blkOf a) w w' := by
  have hm := h.sl.max
  unfold maxLen at hm
  by_cases h0 : n = 0
  · subst h0
    have : l = [] := List.eq_nil_of_length_eq_zero hl
    subst this
    refine (markNone w a c k (by omega) (by omega)).mono ?_
    rintro e w' ⟨rfl, rfl⟩
    exact ⟨rfl, h, Fr.refl _ _⟩
  · obtain ⟨g, cur, rfl, hg, hh, h1, h2, h3, h4⟩ := h.open (by omega)
    refine (markByteS_any w g 5 cur n c k hh (by omega) (by omega) (by omega) hk).mono ?_
    rintro e w' ⟨rfl, b, f⟩
    have hml := marks_length k n
    refine ⟨rfl, ⟨by simp, .inr ⟨g, c, splice cur 0 (marks k n), by rw [hml], hg, b, by rw [hml]; omega, h2, ?_, ?_⟩⟩, f.mono (fun q _ hq => by simp only [List.mem_cons, List.not_mem_nil, or_false] at hq; rw [hq]; exact mem_blkOf.2 ⟨_, rfl, rfl⟩)⟩
    · rw [splice_size _ _ _ (by rw [hml]; omega)]
      omega
    · unfold splice
      simp only [List.take_zero, List.nil_append, Nat.zero_add, Nat.mul_one]
      rw [List.take_append_of_le_length (by simp), List.take_of_length_le (by simp)]
def MrRel (w : World) (base : Nat) (a : Option Addr) (n c : Nat) (vs : List (Option Addr × Nat)) (ls : List Nat) (k : Nat) (kv iv : Value) (wr : World) : Prop :=
  ∃ i rs, i ≤ n ∧ kv = .int .i64 ((kR k ls i : Nat) : Int) ∧ iv = .int .i64 ((i : Nat) : Int) ∧ RsI 31 5 wr base [] a n c rs vs ∧ (∀ j, j < n → (rs.getD j ⟨0, [], false, false⟩).data.length = ls.getD j 0) ∧ (∀ j, j < i → rs.getD j ⟨0, [], false, false⟩ = mk1 (kR k ls j) (ls.getD j 0)) ∧ Fr (blkOf a ++ vs.flatMap (fun v => blkOf v.1)) w wr
set_option maxRecDepth 100000 in
set_option maxHeartbeats 1600000 in
theorem markResultS_any (w : World) (base : Nat) (a : Option Addr) (n c k : Nat) (rs : List Res) (vs : List (Option Addr × Nat)) (ls : List Nat) (h : RsI 31 5 w base [] a n c rs vs) (hls : ls = rs.map (fun r => r.data.length)) (hk : ∀ i, i ≤ n → kR k ls i ≤ 109951162777) :
    Calls Try.prog 35 #[.slice a n c, .int .i64 (k : Int)] w fun e w' => e = .returned (.int .i64 ((kR k ls n : Nat) : Int)) ∧ ∃ rs', RsI 31 5 w' base [] a n c rs' vs ∧ (∀ j, j < n → rs'.getD j ⟨0, [], false, false⟩ = mk1 (kR k ls j) (ls.getD j 0)) ∧ Fr (blkOf a ++ vs.flatMap (fun v => blkOf v.1)) w w' := by
  have hcap := h.read.cap
  have hmx := h.read.max
  unfold maxLen at hmx
  have hl : ls.length = n := by rw [hls]; simpa using h.len
  have J0 : Hid (MrRel w base a n c vs ls k (.int .i64 (k : Int)) (.int .i64 0) w) := ⟨0, rs, by omega, by simp [kR], rfl, h, (fun j hj => by rw [hls]; simp [List.getD_eq_getElem?_getD, List.getElem?_eq_getElem (show j < rs.length by rw [h.len]; exact hj)]), (fun j hj => by omega), Fr.refl _ _⟩
  have HK := Lib.hid hk
  clear h hk hls
  go_enter Try.func35, Try.ntmps35
  go_wp2_with fail
  go_loopw [1, 5] (fun kv iv wr => MrRel w base a n c vs ls k kv iv wr) (fun _ iv _ => n - (intOf iv).toNat)
  case atStart => exact J0.out
  case round =>
    clear J0
    obtain ⟨i, rs, hi, rfl, rfl, hI, hln, hmk, hf⟩ := hrel
    by_cases hlt : i < n
    · obtain ⟨g, rfl, _, _, p0, p1, p2, p3, hfz⟩ := hI.row4 hlt
      have hli : ls[i]? = some (ls.getD i 0) := by rw [List.getD_eq_getElem?_getD, List.getElem?_eq_getElem (by omega)]; rfl
      obtain ⟨l, hle⟩ : ∃ l, l = ls.getD i 0 := ⟨_, rfl⟩
      have hks := kR_succ k ls i _ hli
      have hkk := HK.out (i + 1) hlt
      rw [← hle] at hks
      obtain ⟨z, hz⟩ : ∃ z, z = kR k ls i := ⟨_, rfl⟩
      rw [← hz] at hks ⊢
      rw [hks] at hkk
      have hdl := hln i hlt
      rw [← hle] at hdl
      rw [hdl] at p1
      obtain ⟨x, hx⟩ : ∃ x, x = rs.getD i ⟨0, [], false, false⟩ := ⟨_, rfl⟩
      obtain ⟨v, hv⟩ : ∃ v, v = vs.getD i (none, 0) := ⟨_, rfl⟩
      rw [← hx] at p0 p2 p3 hdl
      rw [← hv] at p1
      have y0 := hfz (i * 4)
      have hvm : v ∈ vs := by rw [hv, List.getD_eq_getElem?_getD, List.getElem?_eq_getElem (by rw [hI.vlen]; exact hlt)]; exact List.getElem_mem _
      -- the number
      have I1 : RsI 31 5 (wr.setCell ⟨g, i * 4, none⟩ (.int .i64 (z : Int))) base [] (some ⟨g, 0, none⟩) n c (rs.set i ⟨(z : Int), x.data, x.ok, x.pan⟩) vs := hI.setF (j := 0) hlt (by decide) ⟨(z : Int), x.data, x.ok, x.pan⟩ (.int .i64 (z : Int)) (by rw [hx]) (by rw [← hx]; rfl)
      have F1 : Fr (blkOf (some ⟨g, 0, none⟩) ++ vs.flatMap (fun v => blkOf v.1)) w (wr.setCell ⟨g, i * 4, none⟩ (.int .i64 (z : Int))) := hf.setCell _ _ (.inr (List.mem_append_left _ (mem_blkOf.2 ⟨_, rfl, rfl⟩)))
      have gl : i < rs.length := by rw [hI.len]; exact hlt
      have HX := Lib.hid (And.intro hx (And.intro hv (And.intro hz (And.intro hle (And.intro hks (And.intro hvm (And.intro gl hdl)))))))
      have HI1 := Lib.hid I1
      have HF1 := Lib.hid F1
      have HLN := Lib.hid hln
      have HMK := Lib.hid hmk
      clear I1 F1 hx hv hz hle hks hvm gl hdl hln hmk hI hf hli
      obtain ⟨va, vc⟩ := v
      simp only at p1
      go_wp2_with fail
      generalize wr.setCell ⟨g, i * 4, none⟩ (.int .i64 (z : Int)) = w1 at HI1 HF1 ⊢
      obtain ⟨hx, hv, hz, hle, hks, hvm, gl, hdl⟩ := HX.out
      have I1 := HI1.out
      have O1 := I1.own i hlt
      rw [getD_set_self _ _ _ _ gl, ← hv] at O1
      rw [show (z : Int) + 1 = ((z + 1 : Nat) : Int) by omega]
      refine (markOwD w1 base l vc (z + 1) va x.data O1 hdl (by omega)).mono ?_
      rintro e w2 ⟨rfl, O2, f2⟩
      have ml : (marks (z + 1) l).length = l := marks_length _ _
      have I2 : RsI 31 5 w2 base [] (some ⟨g, 0, none⟩) n c (rs.set i ⟨(z : Int), marks (z + 1) l, x.ok, x.pan⟩) vs := by
        have e := I1.setD (w' := w2) hlt ⟨(z : Int), marks (z + 1) l, x.ok, x.pan⟩ (by rw [← hv]; exact f2) (by rw [getD_set_self _ _ _ _ gl]; show (marks (z + 1) l).length = _; rw [ml]; exact hdl.symm) (by rw [getD_set_self _ _ _ _ gl]) (by rw [getD_set_self _ _ _ _ gl]) (by rw [getD_set_self _ _ _ _ gl]) (by rw [← hv]; exact O2)
        rwa [List.set_set] at e
      have F2 := Lib.hid (HF1.out.trans (f2.mono (fun q _ hq => List.mem_append_right _ (List.mem_flatMap.2 ⟨_, hvm, hq⟩))))
      obtain ⟨g', hg', _, _, r0, r1, r2, r3, rfz⟩ := I2.row4 hlt
      obtain rfl : g = g' := by simpa using hg'
      rw [getD_set_self _ _ _ _ gl] at r0 r1 r2 r3
      simp only at r0 r1 r2 r3
      have I3 : Hid (∀ b1 b2 : Bool, b1 = decide ((z + 1 + l) % 3 = 0) → b2 = decide ((z + 2 + l) % 3 = 0) → RsI 31 5 ((w2.setCell ⟨g, i * 4 + 2, none⟩ (.bool b1)).setCell ⟨g, i * 4 + 3, none⟩ (.bool b2)) base [] (some ⟨g, 0, none⟩) n c (rs.set i (mk1 z l)) vs) := by
        rintro b1 b2 rfl rfl
        have e := I2.setF (j := 2) hlt (by decide) ⟨(z : Int), marks (z + 1) l, decide ((z + 1 + l) % 3 = 0), x.pan⟩ (.bool (decide ((z + 1 + l) % 3 = 0))) (by rw [getD_set_self _ _ _ _ gl]) (by rw [getD_set_self _ _ _ _ gl]; rfl)
        rw [List.set_set] at e
        have e2 := e.setF (j := 3) hlt (by decide) (mk1 z l) (.bool (decide ((z + 2 + l) % 3 = 0))) (by rw [getD_set_self _ _ _ _ gl]; rfl) (by rw [getD_set_self _ _ _ _ gl]; rfl)
        rwa [List.set_set] at e2
      have hgm : g ∈ blkOf (some ⟨g, 0, none⟩) ++ vs.flatMap (fun v => blkOf v.1) := List.mem_append_left _ (mem_blkOf.2 ⟨_, rfl, rfl⟩)
      have F3 : Hid (∀ b1 b2 : Bool, Fr (blkOf (some ⟨g, 0, none⟩) ++ vs.flatMap (fun v => blkOf v.1)) w ((w2.setCell ⟨g, i * 4 + 2, none⟩ (.bool b1)).setCell ⟨g, i * 4 + 3, none⟩ (.bool b2))) := fun b1 b2 => (F2.out.setCell ⟨g, i * 4 + 2, none⟩ (.bool b1) (.inr hgm)).setCell ⟨g, i * 4 + 3, none⟩ (.bool b2) (.inr hgm)
      have y2 := rfz (i * 4 + 2)
      have y3 := rfz (i * 4 + 3)
      clear I1 I2 O1 O2 f2 F2 hx hv hz hle hks hvm gl hdl ml hg' r0 r1 rfz p0 p1 p2 p3 y0 hfz HI1 HF1 hgm
      go_wp2_with fail
      obtain ⟨hx, hv, hz, hle, hks, hvm, gl, hdl⟩ := HX.out
      have hb1 : (((z : Int) + 1 + (l : Int)) % 3 == 0) = decide ((z + 1 + l) % 3 = 0) := by
        rw [Bool.eq_iff_iff]
        simp only [beq_iff_eq, decide_eq_true_eq]
        omega
      have hb2 : (((z : Int) + 1 + (l : Int) + 1) % 3 == 0) = decide ((z + 2 + l) % 3 = 0) := by
        rw [Bool.eq_iff_iff]
        simp only [beq_iff_eq, decide_eq_true_eq]
        omega
      refine ⟨⟨i + 1, rs.set i (mk1 z l), by omega, ?_, by simp, I3.out _ _ hb1 hb2, fun j hj => ?_, fun j hj => ?_, F3.out _ _⟩, by simp [intOf]; omega⟩
      · rw [hks]
        congr 1
        omega
      · by_cases e : i = j
        · subst e
          rw [getD_set_self _ _ _ _ gl]
          show (marks (z + 1) l).length = _
          rw [marks_length]
          exact hle
        · rw [getD_set_other _ _ _ _ _ e]
          exact HLN.out j hj
      · by_cases e : i = j
        · subst e
          rw [getD_set_self _ _ _ _ gl, hz, hle]
        · rw [getD_set_other _ _ _ _ _ e]
          exact HMK.out j (by omega)
    · obtain rfl : i = n := by omega
      have HF := Lib.hid hf
      have HI := Lib.hid hI
      have HM := Lib.hid hmk
      have HKI := HK.out i (Nat.le_refl _)
      clear hf hI hmk hln
      go_wp2_with fail
      go_ret
      exact ⟨rfl, rs, HI.out, HM.out, HF.out⟩
set_option maxRecDepth 100000 in
set_option maxHeartbeats 1600000 in
theorem heldResultS_any (w : World) (a : Option Addr) (n c k : Nat) (rs : List Res) (ls : List Nat) (h : RsR w a n c rs) (hm : ∀ j, j < n → rs.getD j ⟨0, [], false, false⟩ = mk1 (kR k ls j) (ls.getD j 0)) (hll : ls.length = n) (hk : ∀ i, i ≤ n → kR k ls i ≤ 109951162777) :
    Calls Try.prog 36 #[.slice a n c, .int .i64 (k : Int)] w fun e w' => e = .returned (.int .i64 ((kR k ls n : Nat) : Int)) ∧ Fr [] w w' := by
  have hcap := h.cap
  have hmx := h.max
  unfold maxLen at hmx
  have HA := Lib.hid h
  have HM := Lib.hid hm
  have HK := Lib.hid hk
  have HL := Lib.hid hll
  clear h hm hk hll
  go_enter Try.func36, Try.ntmps36
  go_wp2_with fail
  go_loopw [1, 5] (fun kv iv wr => ∃ i : Nat, i ≤ n ∧ kv = .int .i64 ((kR k ls i : Nat) : Int) ∧ iv = .int .i64 (i : Int) ∧ Fr [] w wr) (fun _ iv _ => n - (intOf iv).toNat)
  case atStart => exact ⟨0, by omega, by simp [kR], rfl, Fr.refl _ _⟩
  case round =>
    obtain ⟨i, hi, rfl, rfl, hf⟩ := hrel
    by_cases hlt : i < n
    · obtain ⟨b, o, ad, nd, cd, rfl, q, s⟩ := RsR.at4 (HA.out.keep0 hf) hlt
      rw [HM.out i hlt] at q s
      have hli : ls[i]? = some (ls.getD i 0) := by rw [List.getD_eq_getElem?_getD, List.getElem?_eq_getElem (by rw [HL.out]; exact hlt)]; rfl
      have hks := kR_succ k ls i _ hli
      have hkk := HK.out (i + 1) hlt
      generalize ls.getD i 0 = l at q s hks
      rw [hks] at hkk
      clear hli
      obtain ⟨z, hz⟩ : ∃ z, z = kR k ls i := ⟨_, rfl⟩
      rw [← hz] at q s hks hkk ⊢
      unfold mk1 at q s
      simp only at q s
      have hnd : l = nd := by have := s.len; rwa [marks_length] at this
      subst hnd
      obtain ⟨p0, p1, p2, p3⟩ := q
      obtain ⟨b1, hb1⟩ : ∃ b1, b1 = decide ((z + 1 + l) % 3 = 0) := ⟨_, rfl⟩
      obtain ⟨b2, hb2⟩ : ∃ b2, b2 = decide ((z + 2 + l) % 3 = 0) := ⟨_, rfl⟩
      rw [← hb1] at p2
      rw [← hb2] at p3
      have hc1 : (((z : Int) + 1 + (l : Int)) % 3 == 0) = b1 := by
        rw [hb1, Bool.eq_iff_iff]
        simp only [beq_iff_eq, decide_eq_true_eq]
        omega
      have hc2 : (((z : Int) + 1 + (l : Int) + 1) % 3 == 0) = b2 := by
        rw [hb2, Bool.eq_iff_iff]
        simp only [beq_iff_eq, decide_eq_true_eq]
        omega
      have HS := Lib.hid s
      have HF := Lib.hid hf
      have HKS := Lib.hid (And.intro hks hz)
      clear s hf hks hz hb1 hb2
      go_wp2_with fail
      rw [show (z : Int) + 1 = ((z + 1 : Nat) : Int) by omega]
      refine (heldByteS_any wr ad l cd (z + 1) HS.out (by omega)).mono ?_
      rintro e w2 ⟨rfl, hw2⟩
      obtain rfl := hw2.symm
      go_wp2_with fail
      exact ⟨⟨i + 1, by omega, by rw [HKS.out.1]; congr 1; omega, by simp, HF.out⟩, by simp [intOf]; omega⟩
    · obtain rfl : i = n := by omega
      have HF := Lib.hid hf
      clear hf
      have HKI := HK.out i (Nat.le_refl _)
      go_wp2_with fail
      go_ret
      exact ⟨rfl, HF.out⟩
end Go.Proofs.Ytfgfhdkedmgfiaa
end

section
namespace Go.Proofs.Ytfgfhdkedmgfiaa
open Go.ChangeShapes Go.WideShapes Go.ChangeAt Go.RowKit Go.Sha
theorem szByteS_ok (a : Option Addr) (n c left : Nat) (w : World) (hc : n ≤ c) (hm : c ≤ 9223372036854775807) (z : Nat) (hl : z + n = left) (h2 : left ≤ 1048576) :
    Calls Try.prog 81 #[.slice a n c, .int .i64 (left : Int)] w fun e w' => e = .returned (.int .i64 (z : Int)) ∧ w' = w := by
  have h0 : (left : Int) - (n : Int) = (z : Int) := by omega
  go_enter Try.func81, Try.ntmps81
  go_wp2_with fail
  go_ret
  exact ⟨rfl, rfl⟩
theorem szByteS_no (a : Option Addr) (n c left : Nat) (w : World) (hc : n ≤ c) (hm : c ≤ 9223372036854775807) (hl : left < n) (h2 : left ≤ 1048576) :
    Calls Try.prog 81 #[.slice a n c, .int .i64 (left : Int)] w fun e w' => e = .returned (.int .i64 (-1)) ∧ w' = w := by
  have h3 : ((left : Int) - (n : Int) < 0) := by omega
  go_enter Try.func81, Try.ntmps81
  go_wp2_with fail
  go_ret
  exact ⟨rfl, rfl⟩
theorem szAct_ok (k att pick : Int) (a : Option Addr) (n c left : Nat) (w : World) (hc : n ≤ c) (hm : c ≤ 9223372036854775807) (z : Nat) (hl : z + n = left) (h2 : left ≤ 1048576) :
    Calls Try.prog 47 #[.agg #[.int .i64 k, .int .i64 att, .int .i64 pick, .slice a n c], .int .i64 (left : Int)] w fun e w' => e = .returned (.int .i64 (z : Int)) ∧ Fr [] w w' := by
  have HZ : Hid (Fr [] w (w.alloc (.cells #[.int .i64 k, .int .i64 att, .int .i64 pick, .slice a n c] 74))) := (Fr.refl _ _).alloc _
  go_enter Try.func47, Try.ntmps47
  go_wp2_with fail
  refine (szByteS_ok a n c left _ hc hm z hl h2).mono ?_
  rintro e wz ⟨rfl, hwz⟩
  obtain rfl := hwz.symm
  go_wp2_with fail
  go_ret
  exact ⟨rfl, HZ.out⟩
theorem szAct_no (k att pick : Int) (a : Option Addr) (n c left : Nat) (w : World) (hc : n ≤ c) (hm : c ≤ 9223372036854775807) (hl : left < n) (h2 : left ≤ 1048576) :
    Calls Try.prog 47 #[.agg #[.int .i64 k, .int .i64 att, .int .i64 pick, .slice a n c], .int .i64 (left : Int)] w fun e w' => e = .returned (.int .i64 (-1)) ∧ Fr [] w w' := by
  have HZ : Hid (Fr [] w (w.alloc (.cells #[.int .i64 k, .int .i64 att, .int .i64 pick, .slice a n c] 74))) := (Fr.refl _ _).alloc _
  go_enter Try.func47, Try.ntmps47
  go_wp2_with fail
  refine (szByteS_no a n c left _ hc hm hl h2).mono ?_
  rintro e wz ⟨rfl, hwz⟩
  obtain rfl := hwz.symm
  go_wp2_with fail
  go_ret
  exact ⟨rfl, HZ.out⟩
/-- what szActS returns -/
def SzR (n : Nat) (xs : List Actn) (w : World) (e : Ending) (w' : World) : Prop := ∃ z : Int, e = .returned (.int .i64 z) ∧ -1 ≤ z ∧ z ≤ 1048576 ∧ (0 ≤ z → n + bytesH xs ≤ 1048576) ∧ Fr [] w w'
def SzRel (w : World) (n : Nat) (xs : List Actn) (lv iv : Value) (wr : World) : Prop :=
  ∃ i z : Nat, i ≤ n ∧ lv = .int .i64 ((z : Nat) : Int) ∧ iv = .int .i64 ((i : Nat) : Int) ∧ z + n + bytesH (xs.take i) = 1048576 ∧ Fr [] w wr
theorem bytesH_snoc (xs : List Actn) (x : Actn) : bytesH (xs ++ [x]) = bytesH xs + x.data.length := by simp [bytesH]
set_option maxRecDepth 100000 in
set_option maxHeartbeats 1600000 in
theorem szActS_any (w : World) (a : Option Addr) (n c : Nat) (xs : List Actn) (h : ActsAt w a n c xs) :
    Calls Try.prog 29 #[.slice a n c, .int .i64 1048576] w (SzR n xs w) := by
  have HA := Lib.hid h
  have hcap := h.cap
  have hmx := h.max
  unfold maxLen at hmx
  clear h
  by_cases hn : 1048576 < n
  · have h3 : (1048576 : Int) - (n : Int) < 0 := by omega
    have h4 : (1048576 : Int) < (n : Int) := by omega
    go_enter Try.func29, Try.ntmps29
    go_wp2_with fail
    go_ret
    exact ⟨-1, rfl, by omega, by omega, fun h => by omega, Fr.refl _ _⟩
  · have h3 : ¬ (1048576 : Int) - (n : Int) < 0 := by omega
    have h4 : ¬ (1048576 : Int) < (n : Int) := by omega
    obtain ⟨z0, hz0⟩ : ∃ z0 : Nat, (1048576 : Int) - (n : Int) = (z0 : Int) := ⟨1048576 - n, by omega⟩
    go_enter Try.func29, Try.ntmps29
    go_wp2_with fail
    go_loopw [1, 5] (fun lv iv wr => SzRel w n xs lv iv wr) (fun _ iv _ => n - (intOf iv).toNat)
    case atStart => exact ⟨0, z0, by omega, rfl, rfl, by simp [bytesH]; omega, Fr.refl _ _⟩
    case round =>
      obtain ⟨i, z, hi, rfl, rfl, hz, hf⟩ := hrel
      by_cases hlt : i < n
      · obtain ⟨b, ob, rfl, hcel⟩ : ∃ b ob, a = some ⟨b, ob, none⟩ ∧ ∀ i, i < n → ∃ ad nd cd, wr.cell? ⟨b, ob + 4 * i, none⟩ = some (.int .i64 (xs.getD i ⟨0, 0, 0, []⟩).k) ∧ wr.cell? ⟨b, ob + 4 * i + 1, none⟩ = some (.int .i64 (xs.getD i ⟨0, 0, 0, []⟩).at_) ∧ wr.cell? ⟨b, ob + 4 * i + 2, none⟩ = some (.int .i64 (xs.getD i ⟨0, 0, 0, []⟩).pick) ∧ wr.cell? ⟨b, ob + 4 * i + 3, none⟩ = some (.slice ad nd cd) ∧ Sl wr ad nd cd (xs.getD i ⟨0, 0, 0, []⟩).data ∧ nd ≤ 140737488351232 := by
          rcases (HA.out.keep hf (by simp)).cel with h0 | h0
          · omega
          · exact h0
        obtain ⟨ad, nd, cd, p0, p1, p2, p3, hS, hnd⟩ := hcel i hlt
        clear hcel
        rw [show ob + 4 * i = ob + i * 4 by omega] at p0 p1 p2 p3
        have e7 : xs.take (i + 1) = xs.take i ++ [xs.getD i ⟨0, 0, 0, []⟩] := by
          rw [List.take_succ_eq_append_getElem (by rw [HA.out.len]; exact hlt), List.getD_eq_getElem?_getD, List.getElem?_eq_getElem (by rw [HA.out.len]; exact hlt)]
          rfl
        have e8 : bytesH (xs.take (i + 1)) = bytesH (xs.take i) + nd := by rw [e7, bytesH_snoc, hS.len]
        have e9 := bytesH_take xs (i + 1)
        have hcd := hS.cap
        have hmd := hS.max
        unfold maxLen at hmd
        clear e7 hS
        generalize (xs.getD i ⟨0, 0, 0, []⟩).k = k at p0
        generalize (xs.getD i ⟨0, 0, 0, []⟩).at_ = att at p1
        generalize (xs.getD i ⟨0, 0, 0, []⟩).pick = pick at p2
        have HB := Lib.hid (And.intro hz (And.intro e8 e9))
        have HF := Lib.hid hf
        by_cases hle : nd ≤ z
        · obtain ⟨z', hz'⟩ : ∃ z', z' + nd = z := ⟨z - nd, by omega⟩
          have hzl : z ≤ 1048576 := by omega
          clear hf hz e8 e9 hle hz0
          go_wp2_with fail
          refine (szAct_ok k att pick ad nd cd z _ hcd (by omega) z' hz' hzl).mono ?_
          rintro e w3 ⟨rfl, f3⟩
          go_wp2_with fail
          exact ⟨⟨i + 1, z', by omega, rfl, by simp, by have := HB.out; omega, HF.out.trans f3⟩, by simp [intOf]; omega⟩
        · have hzl : z ≤ 1048576 := by omega
          have hzn : z < nd := by omega
          clear hf hz e8 e9 hle hz0
          go_wp2_with fail
          refine (szAct_no k att pick ad nd cd z _ hcd (by omega) hzn hzl).mono ?_
          rintro e w3 ⟨rfl, f3⟩
          go_wp2_with fail
          go_ret
          exact ⟨-1, rfl, by omega, by omega, fun h => by omega, HF.out.trans f3⟩
      · obtain rfl : i = n := by omega
        have HF := Lib.hid hf
        rw [List.take_of_length_le (by rw [HA.out.len]; exact Nat.le_refl _)] at hz
        clear hf
        go_wp2_with fail
        go_ret
        exact ⟨z, rfl, by omega, by omega, fun _ => by omega, HF.out⟩
end Go.Proofs.Ytfgfhdkedmgfiaa
end

section
namespace Go.Sha
open Go.RowKit Go.Lib
theorem RsI.keepB {RT U : Nat} {S : List Nat} {w w' : World} {base : Nat} {a : Option Addr} {n c : Nat} {rs : List Res} {vs : List (Option Addr × Nat)} (h : RsI RT U w base [] a n c rs vs) (hf : Fr S w w') (hS : ∀ k ∈ S, k < base) : RsI RT U w' base [] a n c rs vs :=
  ⟨h.len, h.vlen, ownsRow_keep h.row hf (fun k hk hm => by have := (ownsRow_lt h.row hk).1; have := hS k hm; omega), (fun x hx hm => by cases hm), (fun i hi => (h.own i hi).keep hf (fun k hk hm => by have := hS k hm; omega)), (fun i hi x hx => ⟨(fun hm => by cases hm), (h.ownS i hi x hx).2⟩), h.ne⟩
theorem RsI.keep0 {RT U : Nat} {w w' : World} {base : Nat} {a : Option Addr} {n c : Nat} {rs : List Res} {vs : List (Option Addr × Nat)} (h : RsI RT U w base [] a n c rs vs) (hf : Fr [] w w') : RsI RT U w' base [] a n c rs vs := h.keepB hf (by simp)
/-- where the results lie -/
theorem RsI.lie {RT U : Nat} {w : World} {base : Nat} {a : Option Addr} {n c : Nat} {rs : List Res} {vs : List (Option Addr × Nat)} (h : RsI RT U w base [] a n c rs vs) : ∀ q ∈ blkOf a ++ vs.flatMap (fun v => blkOf v.1), base ≤ q := fun q hq => by
  rcases List.mem_append.1 hq with hq | hq
  · obtain ⟨x, hx, rfl⟩ := mem_blkOf.1 hq
    exact (ownsRow_lt h.row (show (Value.slice a n c).ownBlock = some x.block by rw [hx]; rfl)).1
  · obtain ⟨v, hv, hm⟩ := List.mem_flatMap.1 hq
    obtain ⟨x, hx, rfl⟩ := mem_blkOf.1 hm
    obtain ⟨i, hi, rfl⟩ := List.mem_iff_getElem.1 hv
    have hi' : i < n := by rw [← h.vlen]; exact hi
    have e : vs.getD i (none, 0) = vs[i] := by rw [List.getD_eq_getElem?_getD, List.getElem?_eq_getElem hi]; rfl
    have ho := h.own i hi'
    rw [e, hx] at ho
    exact ho.block.2.2.1
theorem take_sum_le (l : List Nat) (i : Nat) : (l.take i).sum ≤ l.sum := by
  induction l generalizing i with
  | nil => simp
  | cons x l ih =>
    cases i with
    | zero => simp
    | succ i => have := ih i; simp only [List.take_succ_cons, List.sum_cons]; omega
theorem kR_le (k : Nat) (ls : List Nat) (i : Nat) : kR k ls i ≤ k + 3 * i + ls.sum := by
  have := take_sum_le ls i
  unfold kR
  omega
theorem kA_le (k : Nat) (P : List (Actn × V3)) (xs : List Actn) (hP : P.map (·.1) = xs) (hl : ∀ p ∈ P, p.1.data.length = p.2.2.1) (i : Nat) : kA k (P.map (·.2)) i ≤ k + 3 * i + bytesH xs := by
  have e : ((P.map (·.2)).map (·.2.1)) = xs.map (fun x => x.data.length) := by
    rw [← hP, List.map_map, List.map_map]
    exact List.map_congr_left (fun p hp => (hl p hp).symm)
  have h := take_sum_le (xs.map (fun x => x.data.length)) i
  unfold kA bytesH
  rw [List.map_take, e]
  omega
theorem stepH_data (r o : Nat) (all saved : List Bs) (x : Actn) : (stepH r o all saved x).1.data.length ≤ x.data.length + o := by
  unfold stepH
  split <;> try (simp [hsum_length]; done)
  split <;> simp
theorem foldH_data (r o : Nat) (xs : List Actn) : ∀ s : List Res × List Bs × List Bs, ((xs.foldl (goH r o) s).1.map (fun x => x.data.length)).sum ≤ (s.1.map (fun x => x.data.length)).sum + bytesH xs + o * xs.length := by
  induction xs with
  | nil => intro s; simp [bytesH]
  | cons x xs ih =>
    intro s
    rw [List.foldl_cons]
    have h1 := ih (goH r o s x)
    have h2 := stepH_data r o s.2.1 s.2.2 x
    have h3 : ((goH r o s x).1.map (fun x => x.data.length)).sum = (s.1.map (fun x => x.data.length)).sum + (stepH r o s.2.1 s.2.2 x).1.data.length := by simp [goH]
    have h4 : bytesH (x :: xs) = x.data.length + bytesH xs := by simp [bytesH]
    have h5 : o * (x :: xs).length = o + o * xs.length := by simp [Nat.mul_add]; omega
    omega
theorem runH_data (r o : Nat) (xs : List Actn) : ((runH r o xs).map (fun x => x.data.length)).sum ≤ bytesH xs + o * xs.length := by
  have h := foldH_data r o xs ([], [[]], [])
  simpa [runH, runS] using h
end Go.Sha
end
