/- Contracts and lemmas, merged: Xch. Their conditions stand in each. -/
import Derived.Test.YtkijnpjefccepaaGA
import Derived.Test.YtkijnpjefccepaaGB
import Derived.Test.YtkijnpjefccepaaGC
import Derived.Test.YtkijnpjefccepaaGG
import Derived.Test.YtkijnpjefccepaaGH
import Derived.Test.YtkijnpjefccepaaGX
import Derived.Test.YtkijnpjefccepaaGY
import Derived.Test.YtkijnpjefccepaaGXA
import Derived.Test.YtkijnpjefccepaaGXB
import Derived.Test.YtkijnpjefccepaaGXI
section
namespace Go.Sha
open Go.RowKit
theorem Src_oneX {P : Program} {tx e' : TypeId} {w : World} (hk : P.underlying tx = some (.slice e')) (v : Value) (hv : v.oneCell' = true) (E : Nat) : Src P 1 tx (.slice (some ⟨w.heap.size, 0, none⟩) 1 1) 1 [v] (w.alloc (.cells #[v] E)) := by
  refine Src.ofSlice _ hk ⟨w.heap.size, 0, none⟩ 1 1 [v] rfl (fun j u hu => ?_) (by simpa using hv)
  have hj : j = 0 := by have := (List.getElem?_eq_some_iff.1 hu).1; simp at this; exact this
  subst hj
  have h := Go.heap_alloc_new w (.cells #[v] E)
  have e : (⟨w.heap.size, 0, none⟩ : Addr).add 0 = ⟨w.heap.size, 0, none⟩ := by unfold Addr.add; split <;> simp_all
  rw [e]
  simp only [World.cell?, h]
  simpa using hu
end Go.Sha
namespace Go.Proofs.Ytkijnpjefccepaa
open Go.ChangeShapes Go.WideShapes Go.ChangeAt Go.RowKit Go.Sha
theorem infoPX : (Try.prog.info? 49).map (fun i => (i.zero, i.size, i.bytes)) = some (some (.pointer none), 1, 8) := by kernel_rfl
section
variable {w w' : World} {base hb : Nat} {kind : Int} {p : XP} {q : NC} {all saved : List XS} {bs : List Nat} {ss : List (Nat × Nat)} {a1 a2 : Option Addr} {c1 c2 : Nat} {S : List Nat}
theorem xkind_cell (h : XI 54 49 22 72 w base hb kind p q all saved bs ss a1 c1 a2 c2 S) {n : Nat} (hn : all.length = n) :
    w.cell? ⟨hb, 0, none⟩ = some (.int .i64 kind) ∧ w.cell? ⟨hb, 1, none⟩ = some (.slice q.an q.nn q.cn) ∧ w.cell? ⟨hb, 2, none⟩ = some (.slice q.ac q.nc q.cc) ∧ w.cell? ⟨hb, 3, none⟩ = some (.slice a1 n c1) ∧ w.frozen? ⟨hb, 3, none⟩ = false := by
  subst hn
  exact ⟨by rw [cell_of h.blk]; rfl, by rw [cell_of h.blk]; rfl, by rw [cell_of h.blk]; rfl, by rw [cell_of h.blk]; rfl, by simp [World.frozen?, h.blk]⟩
theorem xgrown_blk {wB wC : World} {n : Nat} (h : XI 54 49 22 72 wB base hb kind p q all saved bs ss a1 c1 a2 c2 S) (hn : all.length = n) (hgr : wB.grownBy wC (Value.slice a1 n c1).ownBlock) :
    wC.cell? ⟨hb, 3, none⟩ = some (.slice a1 n c1) ∧ wC.frozen? ⟨hb, 3, none⟩ = false := by
  subst hn
  have fBC : Fr (blkOf a1) wB wC := by
    rw [← ownBlock_blkOf a1 all.length c1]
    exact (Fr.refl _ _).grown hgr (fun k hk => by rw [hk]; exact .inr (by simp))
  have hblkC := fBC.obj h.blk (fun hm => by
    obtain ⟨x, hx, e⟩ := mem_blkOf.1 hm
    exact (h.a1bs x hx).1 e)
  exact ⟨by rw [cell_of hblkC]; rfl, by simp [World.frozen?, hblkC]⟩
end
theorem xpush_sub {wB : World} {a1 a1' : Option Addr} {S : List Nat} {g N : Nat} (ha : a1' = a1 ∨ a1' = some ⟨wB.heap.size, 0, none⟩) (h1 : ∀ x, a1 = some x → x.block ∈ S) (hg : N ≤ g) (hB : N ≤ wB.heap.size) : ∀ k ∈ g :: (blkOf a1' ++ S), k ∈ S ∨ N ≤ k := fun k hk => by
  rcases List.mem_cons.1 hk with e | hk
  · exact .inr (e ▸ hg)
  · rcases List.mem_append.1 hk with hk | hk
    · obtain ⟨x, hx, rfl⟩ := mem_blkOf.1 hk
      rcases ha with rfl | rfl
      · exact .inl (h1 x hx)
      · simp only [Option.some.injEq] at hx
        subst hx
        exact .inr hB
    · exact .inl hk
end Go.Proofs.Ytkijnpjefccepaa
end
