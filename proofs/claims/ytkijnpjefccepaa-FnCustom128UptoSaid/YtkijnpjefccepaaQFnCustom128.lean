/- FnCustom128: for every input of bulk at most 1048576 the law returns true, and each argument reads afterwards as it read before. The bound on the bulk is the given one. -/
import Derived.Test.YtkijnpjefccepaaGA
import Derived.Test.YtkijnpjefccepaaGB
import Derived.Test.YtkijnpjefccepaaGC
import Derived.Test.YtkijnpjefccepaaGD
import Derived.Test.YtkijnpjefccepaaGE
import Derived.Test.YtkijnpjefccepaaGF
import Derived.Test.YtkijnpjefccepaaGG
import Derived.Test.YtkijnpjefccepaaGH
import Derived.Test.YtkijnpjefccepaaGN
import Derived.Test.YtkijnpjefccepaaGX
import Derived.Test.YtkijnpjefccepaaGY
import Derived.Test.YtkijnpjefccepaaGXA
import Derived.Test.YtkijnpjefccepaaGXB
import Derived.Test.YtkijnpjefccepaaGXI
import Derived.Test.YtkijnpjefccepaaGXJ
import Derived.Test.YtkijnpjefccepaaGXC
import Derived.Test.YtkijnpjefccepaaGXK
import Derived.Test.YtkijnpjefccepaaGXD
import Derived.Test.YtkijnpjefccepaaGXG
import Derived.Test.YtkijnpjefccepaaGXF
import Derived.Test.YtkijnpjefccepaaGXH
import Derived.Test.YtkijnpjefccepaaGXO
import Derived.Test.YtkijnpjefccepaaGXQ
import Derived.Below
import Derived.ChangeOld
import Derived.Deep.RegionLaw
import Derived.ShutString
section
namespace Go.Proofs.Ytkijnpjefccepaa
open Go.ChangeShapes Go.WideShapes Go.ChangeAt Go.RowKit Go.Sha
/-- what the last statement reads -/
structure SYFnCustom128 (w : World) (base : Nat) (ax : Option Addr) (nx cx : Nat) (rs : List Res) (vs : List (Option Addr × Nat)) (pname : Option Addr) (nname cname : Nat) (name : Bs) (pcustom : Option Addr) (ncustom ccustom : Nat) (custom : Bs) (pdata : Option Addr) (ndata cdata : Nat) (data : Bs) (w' : World) : Prop where
  rs : RsI 32 5 w' base [] ax nx cx rs vs
  sname : Sl w' pname nname cname name
  scustom : Sl w' pcustom ncustom ccustom custom
  sdata : Sl w' pdata ndata cdata data
  fr : Fr [] w w'
theorem SYFnCustom128.keep {w : World} {base : Nat} {ax : Option Addr} {nx cx : Nat} {rs : List Res} {vs : List (Option Addr × Nat)} {pname : Option Addr} {nname cname : Nat} {name : Bs} {pcustom : Option Addr} {ncustom ccustom : Nat} {custom : Bs} {pdata : Option Addr} {ndata cdata : Nat} {data : Bs} {w1 w2 : World} (h : SYFnCustom128 w base ax nx cx rs vs pname nname cname name pcustom ncustom ccustom custom pdata ndata cdata data w1) (f : Fr [] w1 w2) : SYFnCustom128 w base ax nx cx rs vs pname nname cname name pcustom ncustom ccustom custom pdata ndata cdata data w2 :=
  ⟨h.rs.keep f (by simp), h.sname.keep0 f, h.scustom.keep0 f, h.sdata.keep0 f, h.fr.trans f⟩
set_option maxRecDepth 100000 in
set_option maxHeartbeats 6000000 in
theorem fnCustom128_walk (pname : Option Addr) (nname cname : Nat) (name : Bs) (pcustom : Option Addr) (ncustom ccustom : Nat) (custom : Bs) (pdata : Option Addr) (ndata cdata : Nat) (data : Bs) (n : Nat) (hun : n < 256) (w : World) (hname : Sl w pname nname cname name) (hnname : nname ≤ 1048576) (hcustom : Sl w pcustom ncustom ccustom custom) (hncustom : ncustom ≤ 1048576) (hdata : Sl w pdata ndata cdata data) (hndata : ndata ≤ 1048576) :
    Calls Try.prog 9 #[.slice pname nname cname, .slice pcustom ncustom ccustom, .slice pdata ndata cdata, .int .u8 (n : Int)] w (RetB true w) := by
  have H_name := Lib.hid hname.len
  have Lname := H_name
  have H0name := Lib.hid hname
  clear hname
  have H_custom := Lib.hid hcustom.len
  have Lcustom := H_custom
  have H0custom := Lib.hid hcustom
  clear hcustom
  have H_data := Lib.hid hdata.len
  have Ldata := H_data
  have H0data := Lib.hid hdata
  clear hdata
  have cu0 : IntKind.i64.wrap (n : Int) = (n : Int) := IntWalk.i64_in _ (by omega)
  obtain ⟨K, hK⟩ : ∃ K, K = n + 1 := ⟨_, rfl⟩
  have hZK : (n : Int) + 1 = (K : Int) := by omega
  have hBK : K ≤ 1024 := by omega
  have hWK : IntKind.i64.wrap (K : Int) = (K : Int) := IntWalk.i64_in _ (by omega)
  have HK := Lib.hid hK
  clear hK
  go_enter Try.func9, Try.ntmps9
  go_wp2_with fail
  refine (own_n _ nname _ name _ H0name.out (by omega)).mono ?_
  rintro e wx ⟨a901, c901, rfl, O901, G⟩
  have Fx := G
  have P901 := Lib.hid (O901.sl_at H_name.out)
  clear O901 G
  go_wp2_with fail
  refine (own_n _ ncustom _ custom _ (H0custom.out.keep0 Fx) (by omega)).mono ?_
  rintro e wy ⟨a902, c902, rfl, O902, G⟩
  have F0 := Fx.trans G
  replace P901 := Lib.hid (P901.out.keep0 G)
  have P902 := Lib.hid (O902.sl_at H_custom.out)
  clear O902 G Fx
  go_wp2_with fail
  refine (lwrite_any 0 _ ndata _ data _ (H0data.out.keep0 F0) (by omega)).mono ?_
  rintro e w1 ⟨a1, c1, rfl, O1, G⟩
  have F1 := F0.trans G
  replace P901 := Lib.hid (P901.out.keep0 G)
  replace P902 := Lib.hid (P902.out.keep0 G)
  have P1 := Lib.hid (O1.sl_at H_data.out)
  clear O1 G
  go_wp2_with fail
  refine (lread_any 0 K _ (by omega)).mono ?_
  rintro e w2 ⟨a2, c2, rfl, O2, G⟩
  have F2 := F1.trans G
  replace P901 := Lib.hid (P901.out.keep0 G)
  replace P902 := Lib.hid (P902.out.keep0 G)
  replace P1 := Lib.hid (P1.out.keep0 G)
  have P2 := Lib.hid (O2.sl_at (n := K) List.length_replicate)
  clear O2 G
  go_wp2_with fail
  have GA : Fr [] w2 (w2.alloc (.cells #[.int .i64 0, .int .i64 0, .int .i64 0, .slice a1 ndata c1, .int .i64 1, .int .i64 0, .int .i64 0, .slice a2 K c2] 27)) := (Fr.refl _ _).alloc _
  have AX : Hid (ActsAt (w2.alloc (.cells #[.int .i64 0, .int .i64 0, .int .i64 0, .slice a1 ndata c1, .int .i64 1, .int .i64 0, .int .i64 0, .slice a2 K c2] 27)) (some ⟨w2.heap.size, 0, none⟩) 2 2 (([(⟨0, 0, 0, data⟩, (a1, ndata, c1)), (⟨1, 0, 0, List.replicate K (0 : UInt8)⟩, (a2, K, c2))] : List (Actn × (Option Addr × Nat × Nat))).map (·.1))) := ActsAt.of_list [(⟨0, 0, 0, data⟩, (a1, ndata, c1)), (⟨1, 0, 0, List.replicate K (0 : UInt8)⟩, (a2, K, c2))] (Go.heap_alloc_new w2 _) (fun p hp => by
    simp only [List.mem_cons, List.not_mem_nil, or_false] at hp
    rcases hp with rfl | rfl
    · exact ⟨P1.out.keep0 GA, by simp only; omega⟩
    · exact ⟨P2.out.keep0 GA, by simp only; omega⟩
    ) (by simp [maxLen])
  have FA := F2.trans GA
  replace P901 := Lib.hid (P901.out.keep0 GA)
  replace P902 := Lib.hid (P902.out.keep0 GA)
  generalize (w2.alloc (.cells #[.int .i64 0, .int .i64 0, .int .i64 0, .slice a1 ndata c1, .int .i64 1, .int .i64 0, .int .i64 0, .slice a2 K c2] 27)) = wA at AX FA P901 P902 ⊢
  clear GA P1 P2
  obtain ⟨p, hp⟩ : ∃ p, p = xpOf (k5 3) name custom := ⟨_, rfl⟩
  have HE : Hid (xOut p ⟨p.hd ++ data, none⟩ K = csh 168 p.o name custom data K) := by
    show _ = _
    rw [xOut_new, hp, xpOf_out _ (k5_lt _)]
    exact if_neg (by decide)
  have hil : (xpOf (k5 3) name custom).ini.length ≤ 4398046511104 := (xpOf_hd (k5 3) name custom (by rw [H_name.out]; omega) (by rw [H_custom.out]; omega)).il
  have RX1 : Calls Try.prog 15 #[.int .i64 3, .slice a901 nname c901, .slice a902 ncustom c902, .slice (some ⟨w2.heap.size, 0, none⟩) 2 2] wA (RunXR (runX p [⟨0, 0, 0, data⟩, ⟨1, 0, 0, List.replicate K (0 : UInt8)⟩]) wA) := by
   rw [hp]
   exact runXofs_any wA 3 (⟨a901, nname, c901, name, a902, ncustom, c902, custom⟩ : NC) _ 2 2 _ AX.out ⟨P901.out, P902.out, fun y hy hn => P901.out.lt hy hn, fun y hy hn => P902.out.lt hy hn⟩ (by show nname ≤ _; omega) (by show ncustom ≤ _; omega) (by omega) (fun x hx => by
    simp only [List.mem_cons, List.not_mem_nil, or_false] at hx
    rcases hx with rfl | rfl
    all_goals simp only [List.length_replicate, H_data.out]
    all_goals (show _ + (207 + (xpOf (k5 3) name custom).ini.length) ≤ _; omega))
  have HRX := Lib.hid RX1
  have HP := Lib.hid hp
  clear RX1 hil hp
  refine HRX.out.mono ?_
  rintro e wB ⟨aB, cB, vs, rfl, RB, GB⟩
  have FB := FA.trans GB
  clear AX FA GB HRX
  have hrs : runX p [⟨0, 0, 0, data⟩, ⟨1, 0, 0, List.replicate K (0 : UInt8)⟩] = [⟨data.length, data, true, false⟩, ⟨(List.replicate K (0 : UInt8)).length, xOut p ⟨p.hd ++ data, none⟩ (List.replicate K (0 : UInt8)).length, true, false⟩] := by kernel_rfl
  simp only [List.length_replicate] at hrs
  have hl : (runX p [⟨0, 0, 0, data⟩, ⟨1, 0, 0, List.replicate K (0 : UInt8)⟩]).length = 2 := by rw [hrs]; rfl
  have RB' := RB
  rw [hl, hrs] at RB'
  rw [hl]
  clear hrs hl RB
  have D0 : SYFnCustom128 w wA.heap.size aB 2 cB [⟨data.length, data, true, false⟩, ⟨K, xOut p ⟨p.hd ++ data, none⟩ K, true, false⟩] vs pname nname cname name pcustom ncustom ccustom custom pdata ndata cdata data wB := ⟨RB', H0name.out.keep0 FB, H0custom.out.keep0 FB, H0data.out.keep0 FB, FB⟩
  clear RB' FB
  go_wp2_with fail
  refine (cshake_any _ pname pcustom ndata _ nname cname ncustom ccustom (data) name custom 168 p.o K (by decide) _ D0.sdata D0.sname D0.scustom (by omega) (by omega)).mono ?_
  rintro e u1 ⟨b1, d1, rfl, o1, f1⟩
  have D1 := D0.keep f1
  have Z1 := Lib.hid o1.sl
  clear o1
  go_wp2_with fail
  refine (tells_t _ _ _ _ _ _ _ vs 1 _ _ _ (csh 168 p.o name custom (data) K) D1.rs (by decide) Z1.out HE.out).mono ?_
  rintro e u2 ⟨rfl, f2⟩
  have D2 := D1.keep f2
  go_wp2_with fail
  go_ret
  exact ⟨rfl, D2.fr⟩
end Go.Proofs.Ytkijnpjefccepaa
end

section
namespace Go.Proofs.Ytkijnpjefccepaa.rFnCustom128
open Go.ChangeShapes Go.WideShapes Go.ChangeAt Go.RowKit Go.Sha
set_option linter.unusedVariables false

theorem own : ownKnob Try.prog.godebug = none := by kernel_rfl
theorem laidOut : laidOutB Try.prog = true := by kernel_rfl

set_option maxRecDepth 100000 in
theorem lifted (os : Os) (started : os.Started) (H : Type) (enc : TypeId × Value → H) (F : Stop.Interp) :
    ReturnsInHanded {} Try.checked os 9 .any ((Rows.OpenSpec.upto Rows.fnCustom128Spec).pre6 enc Try.prog Try.f9 Rows.fnCustom128UptoRow.domain false) (((Rows.OpenSpec.upto Rows.fnCustom128Spec).at F).post enc Try.prog Try.f9 false true false false) := by
  refine returnsInHanded_of_cond (C := Try.checked) (s := Rows.OpenSpec.upto Rows.fnCustom128Spec) (k := Rows.uptoSmall) rfl own started (by kernel_rfl) Try.func9
    (OpenSpec.witness (enc := enc) (C := Try.checked) (s := Rows.OpenSpec.upto Rows.fnCustom128Spec) (k := Rows.uptoSmall) rfl false ⟨#[], #[.slice none 0 0, .slice none 0 0, .slice none 0 0, .int .u8 0], []⟩ 8 (by kernel_rfl) (by kernel_rfl) (by kernel_rfl)
      (x := ([.nil, .nil, .nil, .lit (.int .u8 0)], [], [])) (by kernel_rfl) rfl (by kernel_rfl)) ?_
  intro W base args ds gs before hval0 hW hcnd hk _
  have hval : ∀ (j : Nat) t v, Try.f9.params[j]? = some t → args[j]? = some v → Value.okWide Try.prog W .any base t v := hval0
  have hW' := hW
  obtain ⟨p, q, hA0, hV, rfl, hfz, hnd⟩ := hW
  have hA : DataW.TrodAll enc Try.prog W 0 (fun _ => true) true Try.f9.params.toList args.toList ds p := hA0
  rw [Try.params9] at hA hval
  obtain ⟨v0, vs0, d0, ds0, p0, q0, hargs, rfl, rfl, h0, r0⟩ := trodAll_cons hA
  obtain ⟨v1, vs1, d1, ds1, p1, q1, rfl, rfl, rfl, h1, r1⟩ := trodAll_cons r0
  obtain ⟨v2, vs2, d2, ds2, p2, q2, rfl, rfl, rfl, h2, r2⟩ := trodAll_cons r1
  obtain ⟨v3, vs3, d3, ds3, p3, q3, rfl, rfl, rfl, h3, r3⟩ := trodAll_cons r2
  obtain ⟨rfl, rfl, rfl⟩ := trodAll_nil r3
  obtain rfl : args = #[v0, v1, v2, v3] := by cases args; simp_all
  obtain ⟨rfl, rfl⟩ := trodVars_none hV
  simp only [List.append_nil] at hk
  have hbk : Rows.uptoBulkAll [d0, d1, d2, d3] ≤ 1048576 := of_decide_eq_true hk
  simp only [Rows.uptoBulkAll] at hbk
  obtain ⟨a0, len0, cap0, rfl⟩ := okWide_slice Try.underlying22 (hval 0 22 v0 rfl rfl)
  have k0 := h0
  have lt0 : ∀ x ∈ p0, x.block < W.heap.size := by obtain ⟨m, hm⟩ := k0; exact DataW.trod_lt m _ _ _ hm
  obtain ⟨fuel0, hf0⟩ := h0
  obtain ⟨l0, s0, dl0⟩ := open_bytes Try.underlying22 Try.underlying5 (by kernel_rfl) hf0
  have b0 := DLen_bulk dl0
  obtain ⟨a1, len1, cap1, rfl⟩ := okWide_slice Try.underlying22 (hval 1 22 v1 rfl rfl)
  have k1 := h1
  have lt1 : ∀ x ∈ p1, x.block < W.heap.size := by obtain ⟨m, hm⟩ := k1; exact DataW.trod_lt m _ _ _ hm
  obtain ⟨fuel1, hf1⟩ := h1
  obtain ⟨l1, s1, dl1⟩ := open_bytes Try.underlying22 Try.underlying5 (by kernel_rfl) hf1
  have b1 := DLen_bulk dl1
  obtain ⟨a2, len2, cap2, rfl⟩ := okWide_slice Try.underlying22 (hval 2 22 v2 rfl rfl)
  have k2 := h2
  have lt2 : ∀ x ∈ p2, x.block < W.heap.size := by obtain ⟨m, hm⟩ := k2; exact DataW.trod_lt m _ _ _ hm
  obtain ⟨fuel2, hf2⟩ := h2
  obtain ⟨l2, s2, dl2⟩ := open_bytes Try.underlying22 Try.underlying5 (by kernel_rfl) hf2
  have b2 := DLen_bulk dl2
  obtain ⟨a3, rfl, rfl, rfl, w3⟩ := open_int Try.underlying5 (hval 3 5 v3 rfl rfl) h3
  have u3 := wf_u8 w3
  obtain ⟨m3, hm3⟩ : ∃ m : Nat, a3 = (m : Int) := ⟨a3.toNat, by omega⟩
  subst hm3
  simp only [Rows.uptoBulk] at hbk
  clear hA0 hval0
  refine (fnCustom128_walk a0 len0 cap0 l0 a1 len1 cap1 l1 a2 len2 cap2 l2 m3 (by omega) W s0 (by omega) s1 (by omega) s2 (by omega)).mono fun e W' ⟨he, hfr⟩ => ?_
  have bel := hfr.below
  subst he
  exact ⟨_, rfl, _, _, _, [], _, [], hW', trodAll_mk1 (shut_bool Try.underlying4 _), (trodAll_cons_mk (Below.trod laidOut (by kernel_rfl) (of_decide_eq_true (by kernel_rfl)) k0 bel lt0) (trodAll_cons_mk (Below.trod laidOut (by kernel_rfl) (of_decide_eq_true (by kernel_rfl)) k1 bel lt1) (trodAll_cons_mk (Below.trod laidOut (by kernel_rfl) (of_decide_eq_true (by kernel_rfl)) k2 bel lt2) (trodAll_cons_mk (shut_int Try.underlying5 w3) trodAll_mk0)))), rfl, bel.frame _, fun h => by cases h⟩

theorem proved : Rows.FnCustom128UptoSaid :=
  OpenClaim.holds_of_cond 9 Try.f9 rfl rfl rfl rfl rfl rfl rfl ⟨rfl, rfl, rfl, rfl, rfl⟩ rfl rfl rfl rfl rfl (by kernel_rfl) Try.func9 (by kernel_rfl)
    (of_decide_eq_true (by kernel_rfl)) (by unfold Func.isWrapper; first | (rw [if_pos (by decide +kernel)]; kernel_rfl) | (rw [if_neg (by decide +kernel)]; exact ⟨rfl, rfl⟩))
    (fun os started H enc _ F => lifted os started H enc F)
#print axioms proved
end Go.Proofs.Ytkijnpjefccepaa.rFnCustom128
namespace Go.Proofs.Ytkijnpjefccepaa
theorem fnCustom128_holds : Rows.FnCustom128UptoSaid := rFnCustom128.proved
end Go.Proofs.Ytkijnpjefccepaa
end
