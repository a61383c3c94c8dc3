/- FnSizes: the sizes and the rates that the hashes tell. No condition but on lengths. -/
import Derived.Test.YtjgdbamlaajkmaaLaw
import Derived.Test.YtjgdbamlaajkmaaSz
namespace Go.Sha
open Go.RowKit
theorem Sl.nil0 (w : World) : Sl w none 0 0 [] := ⟨rfl, Nat.le_refl _, by simp [maxLen], .inl rfl⟩
def acCells (p : Actn × (Option Addr × Nat × Nat)) : List Value := [.int .i64 p.1.k, .int .i64 p.1.at_, .int .i64 p.1.pick, .slice p.2.1 p.2.2.1 p.2.2.2]
/-- a list of calls that was just built -/
theorem ActsAt.of_list {w : World} {g T : Nat} (xs : List (Actn × (Option Addr × Nat × Nat))) (h : w.heap[g]? = some (.cells (xs.flatMap acCells).toArray T (0, 0))) (hS : ∀ p ∈ xs, Sl w p.2.1 p.2.2.1 p.2.2.2 p.1.data ∧ p.2.2.1 ≤ 140737488351232) (hm : xs.length ≤ maxLen) :
    ActsAt w (some ⟨g, 0, none⟩) xs.length xs.length (xs.map (·.1)) := by
  refine ⟨by simp, Nat.le_refl _, hm, .inr ⟨g, 0, rfl, fun i hi => ?_⟩⟩
  have hx : xs[i]? = some xs[i] := List.getElem?_eq_getElem hi
  have hd : (xs.map (·.1)).getD i ⟨0, 0, 0, []⟩ = xs[i].1 := by simp [List.getD_eq_getElem?_getD, hx]
  rw [hd]
  have hc : ∀ j, j < 4 → w.cell? ⟨g, 0 + 4 * i + j, none⟩ = (acCells xs[i])[j]? := fun j hj => by
    rw [Nat.zero_add, cell_of h, List.getElem?_toArray, flatMap_get4 acCells (fun _ => rfl) _ _ _ hj, hx]
    rfl
  have hp := hS xs[i] (List.getElem_mem hi)
  exact ⟨_, _, _, hc 0 (by decide), hc 1 (by decide), hc 2 (by decide), hc 3 (by decide), hp.1, hp.2⟩
end Go.Sha
namespace Go.Proofs.Ytjgdbamlaajkmaa
open Go.ChangeShapes Go.WideShapes Go.ChangeAt Go.RowKit Go.Sha
set_option maxRecDepth 100000 in
set_option maxHeartbeats 800000 in
theorem sizes_walk (kind : Int) (a0 : Option Addr) (n ca : Nat) (x : Bs) (w : World) (hx : Sl w a0 n ca x) (hn : n ≤ 140737488351232) :
    Calls Try.prog 3 #[.int .i64 kind, .slice a0 n ca] w (RetB true w) := by
  have H_x := Lib.hid hx.len
  have HX := Lib.hid hx
  clear hx
  have F0 := Fr.refl [] w
  go_enter Try.func3, Try.ntmps3
  go_wp2_with fail
  refine (lplain_any 3 0 _).mono ?_
  rintro e w1 ⟨rfl, G⟩
  have F1 := F0.trans G
  clear G
  go_wp2_with fail
  refine (lwrite_any 0 _ n _ x _ (HX.out.keep0 F1) (by omega)).mono ?_
  rintro e w2 ⟨a2, c2, rfl, O2, G⟩
  have F2 := F1.trans G
  have P2 := Lib.hid (O2.sl_at H_x.out)
  clear O2 G
  go_wp2_with fail
  refine (lplain_any 3 0 _).mono ?_
  rintro e w3 ⟨rfl, G⟩
  have F3 := F2.trans G
  replace P2 := Lib.hid (P2.out.keep0 G)
  clear G
  go_wp2_with fail
  refine (lplain_any 4 0 _).mono ?_
  rintro e w4 ⟨rfl, G⟩
  have F4 := F3.trans G
  replace P2 := Lib.hid (P2.out.keep0 G)
  clear G
  go_wp2_with fail
  refine (lask_any 0 _ 0 _ [] _ (Sl.nil0 _) (by omega)).mono ?_
  rintro e w5 ⟨a5, c5, rfl, O5, G⟩
  have F5 := F4.trans G
  replace P2 := Lib.hid (P2.out.keep0 G)
  have P5 := Lib.hid (O5.sl_at rfl)
  clear O5 G
  go_wp2_with fail
  have GA : Fr [] w5 (w5.alloc (.cells #[.int .i64 3, .int .i64 0, .int .i64 0, .slice none 0 0, .int .i64 0, .int .i64 0, .int .i64 0, .slice a2 n c2, .int .i64 3, .int .i64 0, .int .i64 0, .slice none 0 0, .int .i64 4, .int .i64 0, .int .i64 0, .slice none 0 0, .int .i64 1, .int .i64 0, .int .i64 0, .slice a5 0 c5] 26)) := (Fr.refl _ _).alloc _
  have AX : Hid (ActsAt (w5.alloc (.cells #[.int .i64 3, .int .i64 0, .int .i64 0, .slice none 0 0, .int .i64 0, .int .i64 0, .int .i64 0, .slice a2 n c2, .int .i64 3, .int .i64 0, .int .i64 0, .slice none 0 0, .int .i64 4, .int .i64 0, .int .i64 0, .slice none 0 0, .int .i64 1, .int .i64 0, .int .i64 0, .slice a5 0 c5] 26)) (some ⟨w5.heap.size, 0, none⟩) 5 5 (([(⟨3, 0, 0, []⟩, (none, 0, 0)), (⟨0, 0, 0, x⟩, (a2, n, c2)), (⟨3, 0, 0, []⟩, (none, 0, 0)), (⟨4, 0, 0, []⟩, (none, 0, 0)), (⟨1, 0, 0, []⟩, (a5, 0, c5))] : List (Actn × (Option Addr × Nat × Nat))).map (·.1))) := ActsAt.of_list [(⟨3, 0, 0, []⟩, (none, 0, 0)), (⟨0, 0, 0, x⟩, (a2, n, c2)), (⟨3, 0, 0, []⟩, (none, 0, 0)), (⟨4, 0, 0, []⟩, (none, 0, 0)), (⟨1, 0, 0, []⟩, (a5, 0, c5))] (Go.heap_alloc_new w5 _) (fun p hp => by
    simp only [List.mem_cons, List.not_mem_nil, or_false] at hp
    rcases hp with rfl | rfl | rfl | rfl | rfl
    · exact ⟨Sl.nil0 _, by simp⟩
    · exact ⟨P2.out.keep0 GA, by simp only; omega⟩
    · exact ⟨Sl.nil0 _, by simp⟩
    · exact ⟨Sl.nil0 _, by simp⟩
    · exact ⟨P5.out.keep0 GA, by simp only; omega⟩
    ) (by simp [maxLen])
  have FA := F5.trans GA
  generalize (w5.alloc (.cells #[.int .i64 3, .int .i64 0, .int .i64 0, .slice none 0 0, .int .i64 0, .int .i64 0, .int .i64 0, .slice a2 n c2, .int .i64 3, .int .i64 0, .int .i64 0, .slice none 0 0, .int .i64 4, .int .i64 0, .int .i64 0, .slice none 0 0, .int .i64 1, .int .i64 0, .int .i64 0, .slice a5 0 c5] 26)) = wA at AX FA ⊢
  clear GA P2 P5
  refine (runHashes_any wA kind _ 5 5 _ AX.out (by omega)).mono ?_
  rintro e wB ⟨aB, cB, vs, rfl, RB, GB⟩
  have FB := FA.trans GB
  clear AX FA GB
  obtain ⟨r, hr⟩ : ∃ r, r = rOf (k5 kind) := ⟨_, rfl⟩
  obtain ⟨o, ho⟩ : ∃ o, o = oOf (k5 kind) := ⟨_, rfl⟩
  rw [← hr, ← ho] at RB
  have hrt : Rt r o := by rw [hr, ho]; exact rt_of _ (k5_lt kind)
  have hro : 200 - 2 * o = r := by rw [hr, ho]; exact ro_of _ (k5_lt kind)
  have HB := Lib.hid (hashBlock_any kind)
  rw [← hr] at HB
  have hole := hrt.ole
  clear hr ho
  have hrs : runH r o [⟨3, 0, 0, []⟩, ⟨0, 0, 0, x⟩, ⟨3, 0, 0, []⟩, ⟨4, 0, 0, []⟩, ⟨1, 0, 0, []⟩] = [⟨o, [], false, false⟩, ⟨x.length, x, true, false⟩, ⟨o, [], false, false⟩, ⟨r, [], false, false⟩, ⟨0, hsum r o x, false, false⟩] := rfl
  have RB' : RsI 31 5 wB wA.heap.size [] aB 5 cB (runH r o [⟨3, 0, 0, []⟩, ⟨0, 0, 0, x⟩, ⟨3, 0, 0, []⟩, ⟨4, 0, 0, []⟩, ⟨1, 0, 0, []⟩]) vs := RB
  rw [hrs] at RB'
  obtain ⟨g, hg, hc1, hc2, hcel⟩ := RB'.cells (by decide)
  subst hg
  unfold maxLen at hc2
  have q0 : wB.cell? ⟨g, 0, none⟩ = some (.int .i64 (o : Int)) := hcel 0 (by decide) 0 (by decide)
  have q8 : wB.cell? ⟨g, 8, none⟩ = some (.int .i64 (o : Int)) := hcel 2 (by decide) 0 (by decide)
  have q12 : wB.cell? ⟨g, 12, none⟩ = some (.int .i64 (r : Int)) := hcel 3 (by decide) 0 (by decide)
  have q17 : wB.cell? ⟨g, 17, none⟩ = some (.slice (vs.getD 4 (none, 0)).1 o (vs.getD 4 (none, 0)).2) := by
    have e := hcel 4 (by decide) 1 (by decide)
    rw [show 4 * 4 + 1 = 17 from rfl] at e
    rw [e]
    show some (Value.slice _ (hsum r o x).length _) = _
    rw [hsum_length]
  clear hcel RB RB' hrs
  generalize (vs.getD 4 (none, 0)).1 = a4 at q17
  generalize (vs.getD 4 (none, 0)).2 = c4 at q17
  have t1 : ((o : Int) == (o : Int)) = true := by simp
  have t2 : ((r : Int) == (r : Int)) = true := by simp
  have t3 : ((r : Int) + 2 * (o : Int) == 200) = true := by rw [beq_iff_eq]; omega
  have t4 : IntKind.i64.wrap (2 * (o : Int)) = 2 * (o : Int) := IntWalk.i64_in _ (by omega)
  have t5 : IntKind.i64.wrap ((r : Int) + 2 * (o : Int)) = (r : Int) + 2 * (o : Int) := IntWalk.i64_in _ (by omega)
  go_wp2_with fail
  have d0 : wB.drew.cell? ⟨g, 0, none⟩ = some (.int .i64 (o : Int)) ∧ wB.drew.cell? ⟨g, 8, none⟩ = some (.int .i64 (o : Int)) ∧ wB.drew.cell? ⟨g, 12, none⟩ = some (.int .i64 (r : Int)) ∧ wB.drew.cell? ⟨g, 17, none⟩ = some (.slice a4 o c4) ∧ Fr [] w wB.drew := ⟨q0, q8, q12, q17, FB.drew⟩
  go_region_held3 (fun w' => w'.cell? ⟨g, 0, none⟩ = some (.int .i64 (o : Int)) ∧ w'.cell? ⟨g, 8, none⟩ = some (.int .i64 (o : Int)) ∧ w'.cell? ⟨g, 12, none⟩ = some (.int .i64 (r : Int)) ∧ w'.cell? ⟨g, 17, none⟩ = some (.slice a4 o c4) ∧ Fr [] w w')
    (first | (exact d0) | (exact ⟨fC.cell d0.1 (by simp), fC.cell d0.2.1 (by simp), fC.cell d0.2.2.1 (by simp), fC.cell d0.2.2.2.1 (by simp), d0.2.2.2.2.trans fC⟩) | (go_keep))
    (first | (go_at_call 19; refine (HB.out _).mono ?_; rintro e wC ⟨rfl, fC⟩))
  go_wp2_with fail
  go_ret
  exact ⟨by simp, d0.2.2.2.2.trans fC⟩
end Go.Proofs.Ytjgdbamlaajkmaa
