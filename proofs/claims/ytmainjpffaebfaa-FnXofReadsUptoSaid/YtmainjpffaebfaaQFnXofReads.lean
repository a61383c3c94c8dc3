/- FnXofReads: for every input of bulk at most 1048576 the law returns true, and each argument reads afterwards as it read before. The bound on the bulk is the given one. -/
import Derived.Test.YtmainjpffaebfaaGA
import Derived.Test.YtmainjpffaebfaaGB
import Derived.Test.YtmainjpffaebfaaGC
import Derived.Test.YtmainjpffaebfaaGD
import Derived.Test.YtmainjpffaebfaaGE
import Derived.Test.YtmainjpffaebfaaGF
import Derived.Test.YtmainjpffaebfaaGG
import Derived.Test.YtmainjpffaebfaaGH
import Derived.Test.YtmainjpffaebfaaGN
import Derived.Test.YtmainjpffaebfaaGS
import Derived.Test.YtmainjpffaebfaaGT
import Derived.Test.YtmainjpffaebfaaGU
import Derived.Test.YtmainjpffaebfaaGX
import Derived.Test.YtmainjpffaebfaaGY
import Derived.Test.YtmainjpffaebfaaGXA
import Derived.Test.YtmainjpffaebfaaGXB
import Derived.Test.YtmainjpffaebfaaGXI
import Derived.Test.YtmainjpffaebfaaGXJ
import Derived.Test.YtmainjpffaebfaaGXC
import Derived.Test.YtmainjpffaebfaaGXK
import Derived.Test.YtmainjpffaebfaaGXD
import Derived.Test.YtmainjpffaebfaaGXG
import Derived.Test.YtmainjpffaebfaaGXF
import Derived.Test.YtmainjpffaebfaaGXH
import Derived.Test.YtmainjpffaebfaaGXW
import Derived.Test.YtmainjpffaebfaaGXO
import Derived.Test.YtmainjpffaebfaaGXQ
import Derived.Below
import Derived.ChangeOld
import Derived.Deep.RegionHeld3
import Derived.ShutString
section
namespace Go.Proofs.Ytmainjpffaebfaa
open Go.ChangeShapes Go.WideShapes Go.ChangeAt Go.RowKit Go.Sha
theorem sum_le (l : List Nat) (h : ∀ x ∈ l, x ≤ 256) : l.sum ≤ 256 * l.length := by
  induction l with
  | nil => simp
  | cons x l ih =>
    have h1 := h x (by simp)
    have h2 := ih (fun y hy => h y (by simp [hy]))
    simp only [List.sum_cons, List.length_cons]
    omega
/-- how many bytes each read asks for -/
def szs (sizes : Bs) : List Nat := sizes.map fun x => x.toNat + 1
theorem szs_len (sizes : Bs) : (szs sizes).length = sizes.length := by simp [szs]
theorem szs_get (sizes : Bs) (i : Nat) (h : i < sizes.length) : (szs sizes).getD i 0 = (sizes.getD i 0).toNat + 1 := by
  simp [szs, List.getD_eq_getElem?_getD, h]
theorem szs_le (sizes : Bs) : ∀ x ∈ szs sizes, x ≤ 256 := fun x hx => by
  simp only [szs, List.mem_map] at hx
  obtain ⟨y, _, rfl⟩ := hx
  have := y.toNat_lt
  omega
theorem take_snocN (l : List Nat) (i : Nat) (h : i < l.length) : l.take (i + 1) = l.take i ++ [l.getD i 0] := by
  rw [List.take_succ_eq_append_getElem h, List.getD_eq_getElem?_getD, List.getElem?_eq_getElem h]
  rfl
theorem rds_snoc (l : List Nat) (n : Nat) : rds (l ++ [n]) = rds l ++ [⟨1, 0, 0, List.replicate n 0⟩] := by simp [rds]
/-- what has been read behind i reads -/
def rdA (p : XP) (x : XS) (ns : List Nat) (i : Nat) : Bs := xOut p x (ns.take i).sum
theorem rdA_len (p : XP) (x : XS) (ns : List Nat) (i : Nat) : (rdA p x ns i).length = (ns.take i).sum := xOut_length _ _ _
theorem rdA_flat (p : XP) (x : XS) (ns : List Nat) (i : Nat) : rdA p x ns i = ((rdL p x ns).take i).flatMap (·.data) := by rw [rdL_take, rdL_flat]; rfl
theorem rdA_succ (p : XP) (x : XS) (ns : List Nat) (i : Nat) (h : i < ns.length) : rdA p x ns (i + 1) = rdA p x ns i ++ ((rdL p x ns).getD i ⟨0, [], false, false⟩).data := by
  have hl : i < (rdL p x ns).length := by rw [rdL_len]; exact h
  rw [rdA_flat, rdA_flat, List.take_succ_eq_append_getElem hl, List.flatMap_append, List.getD_eq_getElem?_getD, List.getElem?_eq_getElem hl]
  simp
theorem AsI_one (w : World) (base : Nat) (hb : base ≤ w.heap.size) (x : Actn) (v : Option Addr × Nat × Nat) (hs : Sl w v.1 v.2.1 v.2.2 x.data) (hv : v.2.1 ≤ 140737488351232) : AsI 27 (w.alloc (.cells #[.int .i64 x.k, .int .i64 x.at_, .int .i64 x.pick, .slice v.1 v.2.1 v.2.2] 27)) base (some ⟨w.heap.size, 0, none⟩) 1 1 [x] [v] := by
  refine ⟨rfl, rfl, ⟨rfl, .inr ⟨w.heap.size, 1, #[.int .i64 x.k, .int .i64 x.at_, .int .i64 x.pick, .slice v.1 v.2.1 v.2.2], rfl, hb, Go.heap_alloc_new w _, by simp, by simp [maxLen], by simp, rfl⟩⟩, fun i hi => ?_, fun i hi y hy hn z hz => ?_⟩
  · obtain rfl : i = 0 := by omega
    exact ⟨hs.keep0 ((Fr.refl _ _).alloc _), hv⟩
  · obtain rfl : i = 0 := by omega
    have := hs.lt (x := y) hy hn
    simp only [Option.some.injEq] at hz
    rw [← hz]
    simp only
    omega
def Rd1 (w : World) (m : Nat) (data : Bs) (ns : List Nat) (out iv : Value) (wr : World) : Prop :=
  ∃ i a c vs, i ≤ m ∧ iv = .int .i64 ((i : Nat) : Int) ∧ out = .slice a (i + 1) c ∧ AsI 27 wr w.heap.size a (i + 1) c (⟨0, 0, 0, data⟩ :: rds (ns.take i)) vs ∧ Fr [] w wr
def Rd2 (w : World) (m : Nat) (p : XP) (x : XS) (ns : List Nat) (all iv : Value) (wr : World) : Prop :=
  ∃ i a c, i ≤ m ∧ iv = .int .i64 ((i : Nat) : Int) ∧ all = .slice a (ns.take i).sum c ∧ Ow wr w.heap.size 5 a c (rdA p x ns i) ∧ Fr [] w wr
set_option maxRecDepth 100000 in
set_option maxHeartbeats 4000000 in
theorem fnXofReads_walk (kind : Int) (pname : Option Addr) (nname cname : Nat) (name : Bs) (pcustom : Option Addr) (ncustom ccustom : Nat) (custom : Bs) (pdata : Option Addr) (ndata cdata : Nat) (data : Bs) (psizes : Option Addr) (nsizes csizes : Nat) (sizes : Bs) (w : World) (hname : Sl w pname nname cname name) (hnname : nname ≤ 1048576) (hcustom : Sl w pcustom ncustom ccustom custom) (hncustom : ncustom ≤ 1048576) (hdata : Sl w pdata ndata cdata data) (hndata : ndata ≤ 1048576) (hsizes : Sl w psizes nsizes csizes sizes) (hnsizes : nsizes ≤ 1048576) :
    Calls Try.prog 5 #[.int .i64 kind, .slice pname nname cname, .slice pcustom ncustom ccustom, .slice pdata ndata cdata, .slice psizes nsizes csizes] w (RetB true w) := by
  have H_name := Lib.hid hname.len
  have H0name := Lib.hid hname
  clear hname
  have H_custom := Lib.hid hcustom.len
  have H0custom := Lib.hid hcustom
  clear hcustom
  have H_data := Lib.hid hdata.len
  have H0data := Lib.hid hdata
  clear hdata
  have H_sizes := Lib.hid hsizes.len
  have H0sizes := Lib.hid hsizes
  clear hsizes
  obtain ⟨i0, hi0, hz0, hz1, hz2⟩ := info_parts infoAP
  obtain ⟨j0, hj0, hy0, hy1, hy2⟩ := info_parts info5
  obtain ⟨ns, hns⟩ : ∃ ns, ns = szs sizes := ⟨_, rfl⟩
  have hnl : Hid (ns.length = nsizes) := by show _ = _; rw [hns, szs_len, H_sizes.out]
  have hng : Hid (∀ i, i < nsizes → ns.getD i 0 = (sizes.getD i 0).toNat + 1) := fun i hi => by rw [hns]; exact szs_get sizes i (by rw [H_sizes.out]; exact hi)
  have hnb : Hid (∀ i, (ns.take i).sum ≤ 268435456) := fun i => by
    have h1 := sum_le (ns.take i) (fun x hx => by rw [hns] at hx; exact szs_le sizes x (List.mem_of_mem_take hx))
    have h2 : (ns.take i).length ≤ nsizes := by rw [List.length_take, hnl.out]; omega
    omega
  have hne : Hid (∀ x ∈ ns, x ≤ 256) := fun x hx => by rw [hns] at hx; exact szs_le sizes x hx
  have hsc := H0sizes.out.cap
  have hsm := H0sizes.out.max
  unfold maxLen at hsm
  clear hns
  go_enter Try.func5, Try.ntmps5
  go_wp2_with fail
  refine (lwrite_any 0 _ ndata _ data _ H0data.out (by omega)).mono ?_
  rintro e wa ⟨aa, ca, rfl, Oa, fa⟩
  have G0 : Fr [] w (wa.alloc (.cells #[.int .i64 0, .int .i64 0, .int .i64 0, .slice aa ndata ca] 27)) := fa.alloc _
  have A0 : AsI 27 (wa.alloc (.cells #[.int .i64 0, .int .i64 0, .int .i64 0, .slice aa ndata ca] 27)) w.heap.size (some ⟨wa.heap.size, 0, none⟩) 1 1 [⟨0, 0, 0, data⟩] [(aa, ndata, ca)] := AsI_one wa w.heap.size fa.size ⟨0, 0, 0, data⟩ (aa, ndata, ca) (Oa.sl_at H_data.out) (show ndata ≤ _ by omega)
  have J0 : Hid (Rd1 w nsizes data ns (.slice (some ⟨wa.heap.size, 0, none⟩) 1 1) (.int .i64 0) (wa.alloc (.cells #[.int .i64 0, .int .i64 0, .int .i64 0, .slice aa ndata ca] 27))) := ⟨0, _, _, _, by omega, rfl, rfl, A0, G0⟩
  clear A0 G0 Oa fa
  go_wp2_with fail
  generalize wa.alloc (.cells #[.int .i64 0, .int .i64 0, .int .i64 0, .slice aa ndata ca] 27) = w0 at J0 ⊢
  go_loopw [11, 23] (fun out iv wr => Rd1 w nsizes data ns out iv wr) (fun _ iv _ => nsizes - (intOf iv).toNat)
  case atStart => exact J0.out
  case round =>
    clear J0
    obtain ⟨i, ao, co, vs, hi, rfl, rfl, hR, hf⟩ := hrel
    have HR := Lib.hid hR
    clear hR
    by_cases hlt : i < nsizes
    · obtain ⟨b, ob, rfl, q0⟩ : ∃ b ob, psizes = some ⟨b, ob, none⟩ ∧ wr.cell? ⟨b, ob + i, none⟩ = some (.int .u8 (sizes.getD i 0).toNat) := by
        rcases (H0sizes.out.keep0 hf).cel with h0 | ⟨b, o, h1, h2⟩
        · omega
        · exact ⟨b, o, h1, h2 i hlt⟩
      have e7 := take_snocN ns i (by rw [hnl.out]; exact hlt)
      rw [hng.out i hlt] at e7
      obtain ⟨x, hx⟩ : ∃ x, x = (sizes.getD i 0).toNat := ⟨_, rfl⟩
      have hx8 : x < 256 := by rw [hx]; exact UInt8.toNat_lt _
      rw [← hx] at q0 e7
      obtain ⟨K, hK⟩ : ∃ K, K = x + 1 := ⟨_, rfl⟩
      rw [← hK] at e7
      have cu : IntKind.i64.wrap (x : Int) = (x : Int) := IntWalk.i64_in _ (by omega)
      have hZK : (x : Int) + 1 = (K : Int) := by omega
      have hWK : IntKind.i64.wrap (K : Int) = (K : Int) := IntWalk.i64_in _ (by omega)
      have hBK : K ≤ 256 := by omega
      have HE7 := Lib.hid e7
      have HK := Lib.hid (show (List.replicate K (0 : UInt8)).length = K by simp)
      clear e7 hx hK hx8
      go_wp2_with fail
      clear q0
      refine (lread_any 0 K _ (by omega)).mono ?_
      rintro e w3 ⟨a3, c3, rfl, O3, f3⟩
      have R3 := Lib.hid (HR.out.keep0 f3)
      have HO3 := Lib.hid (O3.sl_at (n := K) HK.out)
      have HN3 : Hid (∀ y, a3 = some y → K ≠ 0 → ∀ z, ao = some z → y.block ≠ z.block) := (fun y hy _ z hz => by
        have h1 : wr.heap.size ≤ y.block := by subst hy; exact O3.block.2.2.1
        have h2 := (ownsRow_lt HR.out.row (show (Value.slice ao (i + 1) co).ownBlock = some z.block by rw [hz]; rfl)).2
        omega)
      have F3 := hf.trans f3
      have Y4 : Hid (Src Try.prog 4 30 (.slice (some ⟨w3.heap.size, 0, none⟩) 1 1) 1 (acCells (⟨1, 0, 0, (List.replicate K (0 : UInt8))⟩, (a3, K, c3))) (w3.alloc (.cells #[.int .i64 1, .int .i64 0, .int .i64 0, .slice a3 K c3] 27))) := Src_act Try.underlying30 ⟨1, 0, 0, (List.replicate K (0 : UInt8))⟩ (a3, K, c3) 27
      obtain ⟨XS, hXS⟩ : ∃ XS, XS = (((⟨0, 0, 0, data⟩ : Actn) :: rds (ns.take i)).zip vs).flatMap acCells := ⟨_, rfl⟩
      obtain ⟨YS, hYS⟩ : ∃ YS, YS = acCells (⟨1, 0, 0, (List.replicate K (0 : UInt8))⟩, (a3, K, c3)) := ⟨_, rfl⟩
      have f4 : Fr [] w3 (w3.alloc (.cells #[.int .i64 1, .int .i64 0, .int .i64 0, .slice a3 K c3] 27)) := (Fr.refl _ _).alloc _
      have O4 : Hid ((w3.alloc (.cells #[.int .i64 1, .int .i64 0, .int .i64 0, .slice a3 K c3] 27)).ownsRow w.heap.size 27 4 (.slice ao (i + 1) co) (i + 1) XS) := by rw [hXS]; exact (R3.out.keep0 f4).row
      rw [← hYS] at Y4
      have X1 : Hid ((i + 1) + 1 ≤ maxLen) := by show _ ≤ _; unfold maxLen; omega
      have X2 : Hid (((i + 1) + 1) * 48 ≤ 140737488355328) := by show _ ≤ _; omega
      have X3 : Hid (w.heap.size ≤ (w3.alloc (.cells #[.int .i64 1, .int .i64 0, .int .i64 0, .slice a3 K c3] 27)).heap.size) := by show _ ≤ _; have := F3.size; simp; omega
      have HXY := Lib.hid (And.intro hXS hYS)
      clear hXS hYS O3 f3
      go_wp2_with (at_builtin; refine wpList_append_srcN _ rfl _ _ 30 30 rfl w.heap.size 27 i0 (.agg #[.int .i64 0, .int .i64 0, .int .i64 0, .slice none 0 0]) 4 48 Try.underlying30 hi0 hz0 hz1 hz2 rfl ao ((i + 1)) co XS rfl O4.out _ 1 YS rfl Y4.out X1.out X2.out X3.out ?_)
      intro a5 c5 w5 ho5 hg5 ha5
      have f5 : Fr (blkOf ao) (w3.alloc (.cells #[.int .i64 1, .int .i64 0, .int .i64 0, .slice a3 K c3] 27)) w5 := by
        rw [← ownBlock_blkOf ao ((i + 1)) co]
        exact (Fr.refl _ _).grown hg5 (fun q hq => by rw [hq]; exact .inr (by simp))
      have R5 := Lib.hid (R3.out.push (x := ⟨1, 0, 0, (List.replicate K (0 : UInt8))⟩) (v := (a3, K, c3)) f4 HO3.out (show K ≤ 140737488351232 by omega) HN3.out (by rw [← HXY.out.1, ← HXY.out.2]; exact ho5) hg5 (by simpa using ha5))
      have F5 := Lib.hid ((F3.trans f4).via f5 (fun q hq => by
        obtain ⟨z, hz, e⟩ := mem_blkOf.1 hq
        rw [← e]
        exact (ownsRow_lt R3.out.row (show (Value.slice ao ((i + 1)) co).ownBlock = some z.block by rw [hz]; rfl)).1))
      have HA5 : Hid (∀ z, a5 = some z → ao = some z ∨ w3.heap.size ≤ z.block) := (fun z hz => by
        have ha5' : a5 = ao ∨ a5 = some ⟨(w3.alloc (.cells #[.int .i64 1, .int .i64 0, .int .i64 0, .slice a3 K c3] 27)).heap.size, 0, none⟩ := by simpa using ha5
        rcases ha5' with h | h
        · left; rw [← h]; exact hz
        · right; rw [h] at hz; have := Option.some.inj hz; rw [← this]; simp)
      clear ho5 hg5 ha5 f5 f4 F3 O4 Y4 X1 X2 X3 HR R3 HO3 HN3 HXY HA5
      go_wp2_with fail
      refine ⟨⟨i + 1, a5, c5, vs ++ [(a3, K, c3)], by omega, by simp, rfl, ?_, F5.out⟩, by simp [intOf]; omega⟩
      rw [HE7.out, rds_snoc]
      exact R5.out
    · obtain rfl : i = nsizes := by omega
      rw [List.take_of_length_le (by rw [hnl.out]; exact Nat.le_refl _)] at HR
      have HA := Lib.hid HR.out.acts
      have hac := HR.out.acts.cap
      have ham := HR.out.acts.max
      unfold maxLen at ham
      clear HR
      go_wp2_with fail
      refine (own_n _ nname _ name _ (H0name.out.keep0 hf) (by omega)).mono ?_
      rintro e wx ⟨a901, c901, rfl, O901, G⟩
      have Fx := hf.trans G
      have P901 := Lib.hid (O901.sl_at H_name.out)
      have HA1 := Lib.hid (HA.out.keep G (by simp))
      clear O901 G HA hf
      go_wp2_with fail
      refine (own_n _ ncustom _ custom _ (H0custom.out.keep0 Fx) (by omega)).mono ?_
      rintro e wy ⟨a902, c902, rfl, O902, G⟩
      have Fy := Fx.trans G
      replace P901 := Lib.hid (P901.out.keep0 G)
      have P902 := Lib.hid (O902.sl_at H_custom.out)
      have HA2 := Lib.hid (HA1.out.keep G (by simp))
      clear O902 G Fx HA1
      obtain ⟨p, hp⟩ : ∃ p, p = xpOf (k5 kind) name custom := ⟨_, rfl⟩
      have HXO := Lib.hid (fun ad an ac nd cd nn cn ns cc data L w => xofOutput_any kind ad an ac nd cd nn cn ns cc data name custom L p hp w)
      have hil : (xpOf (k5 kind) name custom).ini.length ≤ 4398046511104 := (xpOf_hd (k5 kind) name custom (by rw [H_name.out]; omega) (by rw [H_custom.out]; omega)).il
      have RX1 : Calls Try.prog 9 #[.int .i64 kind, .slice a901 nname c901, .slice a902 ncustom c902, .slice ao (i + 1) co] wy (RunXR (runX p (⟨0, 0, 0, data⟩ :: rds ns)) wy) := by
        rw [hp]
        exact runXofs_any wy kind (⟨a901, nname, c901, name, a902, ncustom, c902, custom⟩ : NC) _ (i + 1) co _ HA2.out ⟨P901.out, P902.out, fun y hy hn => P901.out.lt hy hn, fun y hy hn => P902.out.lt hy hn⟩ (by show nname ≤ _; omega) (by show ncustom ≤ _; omega) (by omega) (fun x hx => by
          have hb : x.data.length ≤ 1048576 := by
            rcases List.mem_cons.1 hx with rfl | hx
            · show data.length ≤ _; rw [H_data.out]; omega
            · simp only [rds, List.mem_map] at hx
              obtain ⟨y, hy, rfl⟩ := hx
              have := hne.out y hy
              show (List.replicate y (0 : UInt8)).length ≤ _
              rw [List.length_replicate]; omega
          show _ + (207 + (xpOf (k5 kind) name custom).ini.length) ≤ _
          omega)
      have HRX := Lib.hid RX1
      clear RX1 hil hp
      go_wp2_with fail
      refine HRX.out.mono ?_
      rintro e w6 ⟨a6, c6, v6, rfl, B6, f6⟩
      have hl6 : (runX p (⟨0, 0, 0, data⟩ :: rds ns)).length = i + 1 := by rw [runX_rds, List.length_cons, rdL_len, hnl.out]
      rw [hl6] at B6 ⊢
      rw [runX_rds] at B6
      obtain ⟨x0, hx0⟩ : ∃ x0 : XS, x0 = ⟨p.hd ++ data, none⟩ := ⟨_, rfl⟩
      rw [← hx0] at B6
      have HX0 := Lib.hid hx0
      have HB := Lib.hid (RsI.read B6)
      have F6 := Fy.trans f6
      have hbc := HB.out.cap
      have hbm := HB.out.max
      unfold maxLen at hbm
      obtain ⟨b6, o6, ad6, nd6, cd6, rfl, q6, _⟩ := RsR.at4 HB.out (show 0 < i + 1 by omega)
      have q60 : w6.cell? ⟨b6, o6, none⟩ = some (.int .i64 (ndata : Int)) := by
        have := q6.c0
        rw [Nat.zero_mul, Nat.add_zero] at this
        rw [this]
        show some (Value.int .i64 ((data.length : Nat) : Int)) = _
        rw [H_data.out]
      have tM : (((i : Int) + 1) != ((i : Int) + 1)) = false := by simp
      have tD : ((ndata : Int) != (ndata : Int)) = false := by simp
      have J2 : Hid (Rd2 w6 i p x0 ns (.slice none 0 0) (.int .i64 0) w6) := ⟨0, none, 0, by omega, rfl, by simp, by rw [show rdA p x0 ns 0 = [] from List.length_eq_zero_iff.1 (by rw [rdA_len]; simp)]; exact Ow.nil _ _ _, Fr.refl _ _⟩
      clear B6 hl6 hx0 q6 HRX HA2 f6 Fy P901 P902
      go_wp2_with fail
      clear q60
      go_loopw [15, 58] (fun all iv wr => Rd2 w6 i p x0 ns all iv wr) (fun _ iv _ => i - (intOf iv).toNat)
      case atStart => exact J2.out
      case round =>
        clear J2
        obtain ⟨t, aA, cA, ht, rfl, rfl, hO, hg⟩ := hrel
        have HO := Lib.hid hO
        clear hO
        have hf := F6.trans hg
        obtain ⟨nA, hnA⟩ : ∃ nA, nA = (ns.take t).sum := ⟨_, rfl⟩
        have bA : nA ≤ 268435456 := by rw [hnA]; exact hnb.out t
        rw [← hnA]
        have HLA : Hid ((rdA p x0 ns t).length = nA) := by show _ = _; rw [rdA_len, hnA]
        have HNA := Lib.hid hnA
        clear hnA
        by_cases hlt2 : t < i
        · obtain ⟨b, ob, hbs, q0⟩ : ∃ b ob, psizes = some ⟨b, ob, none⟩ ∧ wr.cell? ⟨b, ob + t, none⟩ = some (.int .u8 (sizes.getD t 0).toNat) := by
            rcases (H0sizes.out.keep0 hf).cel with h0 | ⟨b, o, h1, h2⟩
            · omega
            · exact ⟨b, o, h1, h2 t hlt2⟩
          subst hbs
          obtain ⟨b7, o7, ad7, nd7, cd7, hb7, q7, s7⟩ := RsR.at4 (HB.out.keep0 hg) (show t + 1 < i + 1 by omega)
          simp only [Option.some.injEq, Addr.mk.injEq] at hb7
          obtain ⟨rfl, rfl, _⟩ := hb7
          have g1 := rdL_get p ns x0 t (by rw [hnl.out]; exact hlt2)
          rw [hng.out t hlt2] at g1
          have e9 := rdA_succ p x0 ns t (by rw [hnl.out]; exact hlt2)
          have e8 := take_snocN ns t (by rw [hnl.out]; exact hlt2)
          rw [hng.out t hlt2] at e8
          rw [List.getD_cons_succ] at q7 s7
          obtain ⟨D, hD⟩ : ∃ D, D = (rdL p x0 ns).getD t ⟨0, [], false, false⟩ := ⟨_, rfl⟩
          rw [← hD] at q7 s7 g1 e9
          obtain ⟨x, hx⟩ : ∃ x, x = (sizes.getD t 0).toNat := ⟨_, rfl⟩
          have hx8 : x < 256 := by rw [hx]; exact UInt8.toNat_lt _
          rw [← hx] at q0 g1 e8
          obtain ⟨K, hK⟩ : ∃ K, K = x + 1 := ⟨_, rfl⟩
          rw [← hK] at g1 e8
          have hnd : nd7 = K := by rw [← s7.len, g1.2]
          subst hnd
          rw [g1.1] at q7
          obtain ⟨Dn, data7, ok7, pan7⟩ := D
          simp only at q7 s7 e9
          have cu : IntKind.i64.wrap (x : Int) = (x : Int) := IntWalk.i64_in _ (by omega)
          have hZK : (x : Int) + 1 = (nd7 : Int) := by omega
          have hWK : IntKind.i64.wrap (nd7 : Int) = (nd7 : Int) := IntWalk.i64_in _ (by omega)
          have hBK : nd7 ≤ 256 := by omega
          have ct : IntKind.i64.wrap ((t : Int) + 1) = (t : Int) + 1 := IntWalk.i64_in _ (by omega)
          have tK : ((nd7 : Int) != (nd7 : Int)) = false := by simp
          have ht1 : (t : Int) + 1 < (i : Int) + 1 := by omega
          have ht2 : (t : Int) < (i : Int) := by omega
          have p0 := q7.c0
          have p1 := q7.c1
          have p2 := q7.c2
          have p3 := q7.c3
          obtain ⟨g, hgg⟩ : ∃ g, g = wr.heap.size := ⟨_, rfl⟩
          have f2 : Fr [] wr (wr.alloc (.cells #[.int .i64 (nd7 : Int), .slice ad7 nd7 cd7, .bool ok7, .bool pan7] 32)) := (Fr.refl _ _).alloc _
          have hb2 : (wr.alloc (.cells #[.int .i64 (nd7 : Int), .slice ad7 nd7 cd7, .bool ok7, .bool pan7] 32)).heap[g]? = some (.cells #[.int .i64 (nd7 : Int), .slice ad7 nd7 cd7, .bool ok7, .bool pan7] 32 (0, 0)) := by rw [hgg]; exact Go.heap_alloc_new wr _
          have V0 : (wr.alloc (.cells #[.int .i64 (nd7 : Int), .slice ad7 nd7 cd7, .bool ok7, .bool pan7] 32)).drew.cell? ⟨g, 0, none⟩ = some (.int .i64 (nd7 : Int)) := by show World.cell? _ _ = _; rw [cell_of (w := (wr.alloc _).drew) hb2]; rfl
          have V1 : (wr.alloc (.cells #[.int .i64 (nd7 : Int), .slice ad7 nd7 cd7, .bool ok7, .bool pan7] 32)).drew.cell? ⟨g, 1, none⟩ = some (.slice ad7 nd7 cd7) := by show World.cell? _ _ = _; rw [cell_of (w := (wr.alloc _).drew) hb2]; rfl
          have V2 : (wr.alloc (.cells #[.int .i64 (nd7 : Int), .slice ad7 nd7 cd7, .bool ok7, .bool pan7] 32)).drew.cell? ⟨b, ob + t, none⟩ = some (.int .u8 (x : Int)) := f2.drew.cell q0 (by simp)
          have q8 := q7.keep f2.drew
          have S8 := Lib.hid (s7.keep0 f2.drew)
          have O8 := Lib.hid (HO.out.keep0 f2.drew)
          have G8 := Lib.hid (hg.trans f2.drew)
          have HE9 := Lib.hid e9
          have HE8 := Lib.hid e8
          clear e9 e8 q7 s7 hD hx hK hx8 hb2 f2 g1 hg HO
          go_wp2_with fail
          try rw [← hgg]
          clear p0 p1 p2 p3 q0
          have HGG := Lib.hid hgg
          clear hgg
          generalize wr.alloc (.cells #[.int .i64 (nd7 : Int), .slice ad7 nd7 cd7, .bool ok7, .bool pan7] 32) = w2 at V0 V1 V2 q8 S8 O8 G8 ⊢
          go_region_held3 (fun w' => w'.cell? ⟨g, 0, none⟩ = some (.int .i64 (nd7 : Int)) ∧ w'.cell? ⟨g, 1, none⟩ = some (.slice ad7 nd7 cd7) ∧ w'.cell? ⟨b, ob + t, none⟩ = some (.int .u8 (x : Int)))
            (exact ⟨V0, V1, V2⟩)
            (fail)
          have r1 := q8.c1
          obtain ⟨XS, hXS⟩ : ∃ XS, XS = (rdA p x0 ns t).map bv := ⟨_, rfl⟩
          obtain ⟨YS, hYS⟩ : ∃ YS, YS = data7.map bv := ⟨_, rfl⟩
          have O1 : Hid (w2.drew.ownsRow w6.heap.size 5 1 (.slice aA nA cA) nA XS) := by rw [hXS]; exact Ow.row' O8.out HLA.out
          have Y1 : Hid (Src Try.prog 1 22 (.slice ad7 nd7 cd7) nd7 YS w2.drew) := by rw [hYS]; exact S8.out.src Try.underlying22
          have X1 : Hid (nA + nd7 ≤ maxLen) := by show _ ≤ _; unfold maxLen; omega
          have X2 : Hid ((nA + nd7) * 1 ≤ 140737488355328) := by show _ ≤ _; omega
          have X3 : Hid (w6.heap.size ≤ w2.drew.heap.size) := G8.out.size
          have HXY := Lib.hid (And.intro hXS hYS)
          clear hXS hYS V0 V1 V2 q8
          go_wp2_with (at_builtin; refine wpList_append_src _ rfl _ _ 22 22 rfl w6.heap.size 5 j0 (.int .u8 0) 1 1 Try.underlying22 hj0 hy0 hy1 hy2 rfl aA nA cA XS rfl O1.out _ nd7 YS rfl Y1.out X1.out X2.out X3.out ?_)
          intro a9 c9 w9 ho9 hg9
          have F9 : Fr [] w6 w9 := G8.out.grown hg9 (fun q hq => .inl (O8.out.own_ge (n := nA) q (by rw [hq]; simp)))
          have O9 : Ow w9 w6.heap.size 5 a9 c9 (rdA p x0 ns (t + 1)) := by
            rw [HE9.out]
            exact Ow.of ho9 (by rw [List.length_append, HLA.out, S8.out.len]) (by rw [HXY.out.1, HXY.out.2, List.map_append])
          have HO9 := Lib.hid O9
          have eS : nA + nd7 = (ns.take (t + 1)).sum := by rw [HE8.out, List.sum_append, ← HNA.out]; simp
          rw [eS]
          clear ho9 hg9 O9 O1 Y1 X1 X2 X3 eS r1
          go_wp2_with fail
          exact ⟨⟨t + 1, a9, c9, by omega, by simp, rfl, HO9.out, F9⟩, by simp [intOf]; omega⟩
        · obtain rfl : t = i := by omega
          have HF := Lib.hid hf
          have S9 := Lib.hid (HO.out.sl_at HLA.out)
          have HG := Lib.hid hg
          clear hf hg HO
          go_wp2_with fail
          refine (HXO.out _ pname pcustom ndata _ nname cname ncustom ccustom data nA _ (H0data.out.keep0 HF.out) (H0name.out.keep0 HF.out) (H0custom.out.keep0 HF.out) (by omega) (by omega)).mono ?_
          rintro e u1 ⟨b1, d1, rfl, o1, f1⟩
          have Z1 := Lib.hid o1.sl
          have S10 := Lib.hid (S9.out.keep0 f1)
          clear o1 S9
          go_wp2_with fail
          refine (same_t aA b1 nA _ cA d1 (rdA p x0 ns t) _ _ S10.out Z1.out (by rw [HX0.out, rdA, xOut_new, ← HNA.out])).mono ?_
          rintro e u2 ⟨rfl, f2⟩
          go_wp2_with fail
          go_ret
          exact ⟨rfl, (HF.out.trans f1).trans f2⟩
end Go.Proofs.Ytmainjpffaebfaa
end

section
namespace Go.Proofs.Ytmainjpffaebfaa.rFnXofReads
open Go.ChangeShapes Go.WideShapes Go.ChangeAt Go.RowKit Go.Sha
set_option linter.unusedVariables false

theorem own : ownKnob Try.prog.godebug = none := by kernel_rfl
theorem laidOut : laidOutB Try.prog = true := by kernel_rfl

set_option maxRecDepth 100000 in
theorem lifted (os : Os) (started : os.Started) (H : Type) (enc : TypeId × Value → H) (F : Stop.Interp) :
    ReturnsInHanded {} Try.checked os 5 .any ((Rows.OpenSpec.upto Rows.fnXofReadsSpec).pre6 enc Try.prog Try.f5 Rows.fnXofReadsUptoRow.domain false) (((Rows.OpenSpec.upto Rows.fnXofReadsSpec).at F).post enc Try.prog Try.f5 false true false false) := by
  refine returnsInHanded_of_cond (C := Try.checked) (s := Rows.OpenSpec.upto Rows.fnXofReadsSpec) (k := Rows.uptoSmall) rfl own started (by kernel_rfl) Try.func5
    (OpenSpec.witness (enc := enc) (C := Try.checked) (s := Rows.OpenSpec.upto Rows.fnXofReadsSpec) (k := Rows.uptoSmall) rfl false ⟨#[], #[.int .i64 0, .slice none 0 0, .slice none 0 0, .slice none 0 0, .slice none 0 0], []⟩ 8 (by kernel_rfl) (by kernel_rfl) (by kernel_rfl)
      (x := ([.lit (.int .i64 0), .nil, .nil, .nil, .nil], [], [])) (by kernel_rfl) rfl (by kernel_rfl)) ?_
  intro W base args ds gs before hval0 hW hcnd hk _
  have hval : ∀ (j : Nat) t v, Try.f5.params[j]? = some t → args[j]? = some v → Value.okWide Try.prog W .any base t v := hval0
  have hW' := hW
  obtain ⟨p, q, hA0, hV, rfl, hfz, hnd⟩ := hW
  have hA : DataW.TrodAll enc Try.prog W 0 (fun _ => true) true Try.f5.params.toList args.toList ds p := hA0
  rw [Try.params5] at hA hval
  obtain ⟨v0, vs0, d0, ds0, p0, q0, hargs, rfl, rfl, h0, r0⟩ := trodAll_cons hA
  obtain ⟨v1, vs1, d1, ds1, p1, q1, rfl, rfl, rfl, h1, r1⟩ := trodAll_cons r0
  obtain ⟨v2, vs2, d2, ds2, p2, q2, rfl, rfl, rfl, h2, r2⟩ := trodAll_cons r1
  obtain ⟨v3, vs3, d3, ds3, p3, q3, rfl, rfl, rfl, h3, r3⟩ := trodAll_cons r2
  obtain ⟨v4, vs4, d4, ds4, p4, q4, rfl, rfl, rfl, h4, r4⟩ := trodAll_cons r3
  obtain ⟨rfl, rfl, rfl⟩ := trodAll_nil r4
  obtain rfl : args = #[v0, v1, v2, v3, v4] := by cases args; simp_all
  obtain ⟨rfl, rfl⟩ := trodVars_none hV
  simp only [List.append_nil] at hk
  have hbk : Rows.uptoBulkAll [d0, d1, d2, d3, d4] ≤ 1048576 := of_decide_eq_true hk
  simp only [Rows.uptoBulkAll] at hbk
  obtain ⟨a0, rfl, rfl, rfl, w0⟩ := open_int Try.underlying3 (hval 0 3 v0 rfl rfl) h0
  obtain ⟨a1, len1, cap1, rfl⟩ := okWide_slice Try.underlying22 (hval 1 22 v1 rfl rfl)
  have k1 := h1
  have lt1 : ∀ x ∈ p1, x.block < W.heap.size := by obtain ⟨m, hm⟩ := k1; exact DataW.trod_lt m _ _ _ hm
  obtain ⟨fuel1, hf1⟩ := h1
  obtain ⟨l1, s1, dl1⟩ := open_bytes Try.underlying22 Try.underlying5 (by kernel_rfl) hf1
  have b1 := DLen_bulk dl1
  obtain ⟨a2, len2, cap2, rfl⟩ := okWide_slice Try.underlying22 (hval 2 22 v2 rfl rfl)
  have k2 := h2
  have lt2 : ∀ x ∈ p2, x.block < W.heap.size := by obtain ⟨m, hm⟩ := k2; exact DataW.trod_lt m _ _ _ hm
  obtain ⟨fuel2, hf2⟩ := h2
  obtain ⟨l2, s2, dl2⟩ := open_bytes Try.underlying22 Try.underlying5 (by kernel_rfl) hf2
  have b2 := DLen_bulk dl2
  obtain ⟨a3, len3, cap3, rfl⟩ := okWide_slice Try.underlying22 (hval 3 22 v3 rfl rfl)
  have k3 := h3
  have lt3 : ∀ x ∈ p3, x.block < W.heap.size := by obtain ⟨m, hm⟩ := k3; exact DataW.trod_lt m _ _ _ hm
  obtain ⟨fuel3, hf3⟩ := h3
  obtain ⟨l3, s3, dl3⟩ := open_bytes Try.underlying22 Try.underlying5 (by kernel_rfl) hf3
  have b3 := DLen_bulk dl3
  obtain ⟨a4, len4, cap4, rfl⟩ := okWide_slice Try.underlying22 (hval 4 22 v4 rfl rfl)
  have k4 := h4
  have lt4 : ∀ x ∈ p4, x.block < W.heap.size := by obtain ⟨m, hm⟩ := k4; exact DataW.trod_lt m _ _ _ hm
  obtain ⟨fuel4, hf4⟩ := h4
  obtain ⟨l4, s4, dl4⟩ := open_bytes Try.underlying22 Try.underlying5 (by kernel_rfl) hf4
  have b4 := DLen_bulk dl4
  simp only [Rows.uptoBulk] at hbk
  clear hA0 hval0
  refine (fnXofReads_walk a0 a1 len1 cap1 l1 a2 len2 cap2 l2 a3 len3 cap3 l3 a4 len4 cap4 l4 W s1 (by omega) s2 (by omega) s3 (by omega) s4 (by omega)).mono fun e W' ⟨he, hfr⟩ => ?_
  have bel := hfr.below
  subst he
  exact ⟨_, rfl, _, _, _, [], _, [], hW', trodAll_mk1 (shut_bool Try.underlying4 _), (trodAll_cons_mk (shut_int Try.underlying3 w0) (trodAll_cons_mk (Below.trod laidOut (by kernel_rfl) (of_decide_eq_true (by kernel_rfl)) k1 bel lt1) (trodAll_cons_mk (Below.trod laidOut (by kernel_rfl) (of_decide_eq_true (by kernel_rfl)) k2 bel lt2) (trodAll_cons_mk (Below.trod laidOut (by kernel_rfl) (of_decide_eq_true (by kernel_rfl)) k3 bel lt3) (trodAll_cons_mk (Below.trod laidOut (by kernel_rfl) (of_decide_eq_true (by kernel_rfl)) k4 bel lt4) trodAll_mk0))))), rfl, bel.frame _, fun h => by cases h⟩

theorem proved : Rows.FnXofReadsUptoSaid :=
  OpenClaim.holds_of_cond 5 Try.f5 rfl rfl rfl rfl rfl rfl rfl ⟨rfl, rfl, rfl, rfl, rfl⟩ rfl rfl rfl rfl rfl (by kernel_rfl) Try.func5 (by kernel_rfl)
    (of_decide_eq_true (by kernel_rfl)) (by unfold Func.isWrapper; first | (rw [if_pos (by decide +kernel)]; kernel_rfl) | (rw [if_neg (by decide +kernel)]; exact ⟨rfl, rfl⟩))
    (fun os started H enc _ F => lifted os started H enc F)
#print axioms proved
end Go.Proofs.Ytmainjpffaebfaa.rFnXofReads
namespace Go.Proofs.Ytmainjpffaebfaa
theorem fnXofReads_holds : Rows.FnXofReadsUptoSaid := rFnXofReads.proved
end Go.Proofs.Ytmainjpffaebfaa
end
