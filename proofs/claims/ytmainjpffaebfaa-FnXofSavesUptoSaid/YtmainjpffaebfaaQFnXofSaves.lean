/- FnXofSaves: for every input of bulk at most 1048576 the law returns true, and each argument reads afterwards as it read before. The bound on the bulk is the given one. -/
import Derived.Test.YtmainjpffaebfaaGA
import Derived.Test.YtmainjpffaebfaaGB
import Derived.Test.YtmainjpffaebfaaGC
import Derived.Test.YtmainjpffaebfaaGD
import Derived.Test.YtmainjpffaebfaaGE
import Derived.Test.YtmainjpffaebfaaGF
import Derived.Test.YtmainjpffaebfaaGG
import Derived.Test.YtmainjpffaebfaaGH
import Derived.Test.YtmainjpffaebfaaGN
import Derived.Test.YtmainjpffaebfaaGX
import Derived.Test.YtmainjpffaebfaaGY
import Derived.Test.YtmainjpffaebfaaGXA
import Derived.Test.YtmainjpffaebfaaGXB
import Derived.Test.YtmainjpffaebfaaGXI
import Derived.Test.YtmainjpffaebfaaGXJ
import Derived.Test.YtmainjpffaebfaaGXC
import Derived.Test.YtmainjpffaebfaaGXK
import Derived.Test.YtmainjpffaebfaaGXD
import Derived.Test.YtmainjpffaebfaaGXG
import Derived.Test.YtmainjpffaebfaaGXF
import Derived.Test.YtmainjpffaebfaaGXH
import Derived.Test.YtmainjpffaebfaaGXO
import Derived.Test.YtmainjpffaebfaaGXQ
import Derived.Below
import Derived.ChangeOld
import Derived.Deep.RegionLaw
import Derived.ShutString
section
namespace Go.Proofs.Ytmainjpffaebfaa
open Go.ChangeShapes Go.WideShapes Go.ChangeAt Go.RowKit Go.Sha
/-- what the last statement reads -/
structure SYFnXofSaves (w : World) (base : Nat) (ax : Option Addr) (nx cx : Nat) (rs : List Res) (vs : List (Option Addr × Nat)) (pname : Option Addr) (nname cname : Nat) (name : Bs) (pcustom : Option Addr) (ncustom ccustom : Nat) (custom : Bs) (pa : Option Addr) (na ca : Nat) (a : Bs) (pb : Option Addr) (nb cb : Nat) (b : Bs) (pc : Option Addr) (nc cc : Nat) (c : Bs) (w' : World) : Prop where
  rs : RsI 32 5 w' base [] ax nx cx rs vs
  sname : Sl w' pname nname cname name
  scustom : Sl w' pcustom ncustom ccustom custom
  sa : Sl w' pa na ca a
  sb : Sl w' pb nb cb b
  sc : Sl w' pc nc cc c
  fr : Fr [] w w'
theorem SYFnXofSaves.keep {w : World} {base : Nat} {ax : Option Addr} {nx cx : Nat} {rs : List Res} {vs : List (Option Addr × Nat)} {pname : Option Addr} {nname cname : Nat} {name : Bs} {pcustom : Option Addr} {ncustom ccustom : Nat} {custom : Bs} {pa : Option Addr} {na ca : Nat} {a : Bs} {pb : Option Addr} {nb cb : Nat} {b : Bs} {pc : Option Addr} {nc cc : Nat} {c : Bs} {w1 w2 : World} (h : SYFnXofSaves w base ax nx cx rs vs pname nname cname name pcustom ncustom ccustom custom pa na ca a pb nb cb b pc nc cc c w1) (f : Fr [] w1 w2) : SYFnXofSaves w base ax nx cx rs vs pname nname cname name pcustom ncustom ccustom custom pa na ca a pb nb cb b pc nc cc c w2 :=
  ⟨h.rs.keep f (by simp), h.sname.keep0 f, h.scustom.keep0 f, h.sa.keep0 f, h.sb.keep0 f, h.sc.keep0 f, h.fr.trans f⟩
set_option maxRecDepth 100000 in
set_option maxHeartbeats 6000000 in
theorem fnXofSaves_walk (kind : Int) (pname : Option Addr) (nname cname : Nat) (name : Bs) (pcustom : Option Addr) (ncustom ccustom : Nat) (custom : Bs) (pa : Option Addr) (na ca : Nat) (a : Bs) (pb : Option Addr) (nb cb : Nat) (b : Bs) (pc : Option Addr) (nc cc : Nat) (c : Bs) (n : Nat) (hun : n < 256) (w : World) (hname : Sl w pname nname cname name) (hnname : nname ≤ 1048576) (hcustom : Sl w pcustom ncustom ccustom custom) (hncustom : ncustom ≤ 1048576) (ha : Sl w pa na ca a) (hna : na ≤ 1048576) (hb : Sl w pb nb cb b) (hnb : nb ≤ 1048576) (hc : Sl w pc nc cc c) (hnc : nc ≤ 1048576) :
    Calls Try.prog 3 #[.int .i64 kind, .slice pname nname cname, .slice pcustom ncustom ccustom, .slice pa na ca, .slice pb nb cb, .slice pc nc cc, .int .u8 (n : Int)] w (RetB true w) := by
  have H_name := Lib.hid hname.len
  have Lname := H_name
  have H0name := Lib.hid hname
  clear hname
  have H_custom := Lib.hid hcustom.len
  have Lcustom := H_custom
  have H0custom := Lib.hid hcustom
  clear hcustom
  have H_a := Lib.hid ha.len
  have La := H_a
  have H0a := Lib.hid ha
  clear ha
  have H_b := Lib.hid hb.len
  have Lb := H_b
  have H0b := Lib.hid hb
  clear hb
  have H_c := Lib.hid hc.len
  have Lc := H_c
  have H0c := Lib.hid hc
  clear hc
  have cu0 : IntKind.i64.wrap (n : Int) = (n : Int) := IntWalk.i64_in _ (by omega)
  obtain ⟨K, hK⟩ : ∃ K, K = n + 1 := ⟨_, rfl⟩
  have hZK : (n : Int) + 1 = (K : Int) := by omega
  have hBK : K ≤ 1024 := by omega
  have hWK : IntKind.i64.wrap (K : Int) = (K : Int) := IntWalk.i64_in _ (by omega)
  have HK := Lib.hid hK
  clear hK
  go_enter Try.func3, Try.ntmps3
  go_wp2_with fail
  refine (own_n _ nname _ name _ H0name.out (by omega)).mono ?_
  rintro e wx ⟨a901, c901, rfl, O901, G⟩
  have Fx := G
  have P901 := Lib.hid (O901.sl_at H_name.out)
  clear O901 G
  go_wp2_with fail
  refine (own_n _ ncustom _ custom _ (H0custom.out.keep0 Fx) (by omega)).mono ?_
  rintro e wy ⟨a902, c902, rfl, O902, G⟩
  have F0 := Fx.trans G
  replace P901 := Lib.hid (P901.out.keep0 G)
  have P902 := Lib.hid (O902.sl_at H_custom.out)
  clear O902 G Fx
  go_wp2_with fail
  refine (lwrite_any 0 _ na _ a _ (H0a.out.keep0 F0) (by omega)).mono ?_
  rintro e w1 ⟨a1, c1, rfl, O1, G⟩
  have F1 := F0.trans G
  replace P901 := Lib.hid (P901.out.keep0 G)
  replace P902 := Lib.hid (P902.out.keep0 G)
  have P1 := Lib.hid (O1.sl_at H_a.out)
  clear O1 G
  go_wp2_with fail
  refine (lplain_any 7 0 _).mono ?_
  rintro e w2 ⟨rfl, G⟩
  have F2 := F1.trans G
  replace P901 := Lib.hid (P901.out.keep0 G)
  replace P902 := Lib.hid (P902.out.keep0 G)
  replace P1 := Lib.hid (P1.out.keep0 G)
  clear G
  go_wp2_with fail
  refine (lwrite_any 0 _ nb _ b _ (H0b.out.keep0 F2) (by omega)).mono ?_
  rintro e w3 ⟨a3, c3, rfl, O3, G⟩
  have F3 := F2.trans G
  replace P901 := Lib.hid (P901.out.keep0 G)
  replace P902 := Lib.hid (P902.out.keep0 G)
  replace P1 := Lib.hid (P1.out.keep0 G)
  have P3 := Lib.hid (O3.sl_at H_b.out)
  clear O3 G
  go_wp2_with fail
  refine (lplain_any 6 0 _).mono ?_
  rintro e w4 ⟨rfl, G⟩
  have F4 := F3.trans G
  replace P901 := Lib.hid (P901.out.keep0 G)
  replace P902 := Lib.hid (P902.out.keep0 G)
  replace P1 := Lib.hid (P1.out.keep0 G)
  replace P3 := Lib.hid (P3.out.keep0 G)
  clear G
  go_wp2_with fail
  refine (lload_any 1 0 _).mono ?_
  rintro e w5 ⟨rfl, G⟩
  have F5 := F4.trans G
  replace P901 := Lib.hid (P901.out.keep0 G)
  replace P902 := Lib.hid (P902.out.keep0 G)
  replace P1 := Lib.hid (P1.out.keep0 G)
  replace P3 := Lib.hid (P3.out.keep0 G)
  clear G
  go_wp2_with fail
  refine (lwrite_any 1 _ nc _ c _ (H0c.out.keep0 F5) (by omega)).mono ?_
  rintro e w6 ⟨a6, c6, rfl, O6, G⟩
  have F6 := F5.trans G
  replace P901 := Lib.hid (P901.out.keep0 G)
  replace P902 := Lib.hid (P902.out.keep0 G)
  replace P1 := Lib.hid (P1.out.keep0 G)
  replace P3 := Lib.hid (P3.out.keep0 G)
  have P6 := Lib.hid (O6.sl_at H_c.out)
  clear O6 G
  go_wp2_with fail
  refine (lread_any 1 K _ (by omega)).mono ?_
  rintro e w7 ⟨a7, c7, rfl, O7, G⟩
  have F7 := F6.trans G
  replace P901 := Lib.hid (P901.out.keep0 G)
  replace P902 := Lib.hid (P902.out.keep0 G)
  replace P1 := Lib.hid (P1.out.keep0 G)
  replace P3 := Lib.hid (P3.out.keep0 G)
  replace P6 := Lib.hid (P6.out.keep0 G)
  have P7 := Lib.hid (O7.sl_at (n := K) List.length_replicate)
  clear O7 G
  go_wp2_with fail
  refine (lread_any 0 K _ (by omega)).mono ?_
  rintro e w8 ⟨a8, c8, rfl, O8, G⟩
  have F8 := F7.trans G
  replace P901 := Lib.hid (P901.out.keep0 G)
  replace P902 := Lib.hid (P902.out.keep0 G)
  replace P1 := Lib.hid (P1.out.keep0 G)
  replace P3 := Lib.hid (P3.out.keep0 G)
  replace P6 := Lib.hid (P6.out.keep0 G)
  replace P7 := Lib.hid (P7.out.keep0 G)
  have P8 := Lib.hid (O8.sl_at (n := K) List.length_replicate)
  clear O8 G
  go_wp2_with fail
  have GA : Fr [] w8 (w8.alloc (.cells #[.int .i64 0, .int .i64 0, .int .i64 0, .slice a1 na c1, .int .i64 7, .int .i64 0, .int .i64 0, .slice none 0 0, .int .i64 0, .int .i64 0, .int .i64 0, .slice a3 nb c3, .int .i64 6, .int .i64 0, .int .i64 0, .slice none 0 0, .int .i64 9, .int .i64 1, .int .i64 0, .slice none 0 0, .int .i64 0, .int .i64 1, .int .i64 0, .slice a6 nc c6, .int .i64 1, .int .i64 1, .int .i64 0, .slice a7 K c7, .int .i64 1, .int .i64 0, .int .i64 0, .slice a8 K c8] 27)) := (Fr.refl _ _).alloc _
  have AX : Hid (ActsAt (w8.alloc (.cells #[.int .i64 0, .int .i64 0, .int .i64 0, .slice a1 na c1, .int .i64 7, .int .i64 0, .int .i64 0, .slice none 0 0, .int .i64 0, .int .i64 0, .int .i64 0, .slice a3 nb c3, .int .i64 6, .int .i64 0, .int .i64 0, .slice none 0 0, .int .i64 9, .int .i64 1, .int .i64 0, .slice none 0 0, .int .i64 0, .int .i64 1, .int .i64 0, .slice a6 nc c6, .int .i64 1, .int .i64 1, .int .i64 0, .slice a7 K c7, .int .i64 1, .int .i64 0, .int .i64 0, .slice a8 K c8] 27)) (some ⟨w8.heap.size, 0, none⟩) 8 8 (([(⟨0, 0, 0, a⟩, (a1, na, c1)), (⟨7, 0, 0, []⟩, (none, 0, 0)), (⟨0, 0, 0, b⟩, (a3, nb, c3)), (⟨6, 0, 0, []⟩, (none, 0, 0)), (⟨9, 1, 0, []⟩, (none, 0, 0)), (⟨0, 1, 0, c⟩, (a6, nc, c6)), (⟨1, 1, 0, List.replicate K (0 : UInt8)⟩, (a7, K, c7)), (⟨1, 0, 0, List.replicate K (0 : UInt8)⟩, (a8, K, c8))] : List (Actn × (Option Addr × Nat × Nat))).map (·.1))) := ActsAt.of_list [(⟨0, 0, 0, a⟩, (a1, na, c1)), (⟨7, 0, 0, []⟩, (none, 0, 0)), (⟨0, 0, 0, b⟩, (a3, nb, c3)), (⟨6, 0, 0, []⟩, (none, 0, 0)), (⟨9, 1, 0, []⟩, (none, 0, 0)), (⟨0, 1, 0, c⟩, (a6, nc, c6)), (⟨1, 1, 0, List.replicate K (0 : UInt8)⟩, (a7, K, c7)), (⟨1, 0, 0, List.replicate K (0 : UInt8)⟩, (a8, K, c8))] (Go.heap_alloc_new w8 _) (fun p hp => by
    simp only [List.mem_cons, List.not_mem_nil, or_false] at hp
    rcases hp with rfl | rfl | rfl | rfl | rfl | rfl | rfl | rfl
    · exact ⟨P1.out.keep0 GA, by simp only; omega⟩
    · exact ⟨Sl.nil0 _, by simp⟩
    · exact ⟨P3.out.keep0 GA, by simp only; omega⟩
    · exact ⟨Sl.nil0 _, by simp⟩
    · exact ⟨Sl.nil0 _, by simp⟩
    · exact ⟨P6.out.keep0 GA, by simp only; omega⟩
    · exact ⟨P7.out.keep0 GA, by simp only; omega⟩
    · exact ⟨P8.out.keep0 GA, by simp only; omega⟩
    ) (by simp [maxLen])
  have FA := F8.trans GA
  replace P901 := Lib.hid (P901.out.keep0 GA)
  replace P902 := Lib.hid (P902.out.keep0 GA)
  generalize (w8.alloc (.cells #[.int .i64 0, .int .i64 0, .int .i64 0, .slice a1 na c1, .int .i64 7, .int .i64 0, .int .i64 0, .slice none 0 0, .int .i64 0, .int .i64 0, .int .i64 0, .slice a3 nb c3, .int .i64 6, .int .i64 0, .int .i64 0, .slice none 0 0, .int .i64 9, .int .i64 1, .int .i64 0, .slice none 0 0, .int .i64 0, .int .i64 1, .int .i64 0, .slice a6 nc c6, .int .i64 1, .int .i64 1, .int .i64 0, .slice a7 K c7, .int .i64 1, .int .i64 0, .int .i64 0, .slice a8 K c8] 27)) = wA at AX FA P901 P902 ⊢
  clear GA P1 P3 P6 P7 P8
  obtain ⟨p, hp⟩ : ∃ p, p = xpOf (k5 kind) name custom := ⟨_, rfl⟩
  have HXO := Lib.hid (fun ad an ac nd cd nn cn ns cc data L w => xofOutput_any kind ad an ac nd cd nn cn ns cc data name custom L p hp w)
  have hil : (xpOf (k5 kind) name custom).ini.length ≤ 4398046511104 := (xpOf_hd (k5 kind) name custom (by rw [H_name.out]; omega) (by rw [H_custom.out]; omega)).il
  have RX1 : Calls Try.prog 9 #[.int .i64 kind, .slice a901 nname c901, .slice a902 ncustom c902, .slice (some ⟨w8.heap.size, 0, none⟩) 8 8] wA (RunXR (runX p [⟨0, 0, 0, a⟩, ⟨7, 0, 0, []⟩, ⟨0, 0, 0, b⟩, ⟨6, 0, 0, []⟩, ⟨9, 1, 0, []⟩, ⟨0, 1, 0, c⟩, ⟨1, 1, 0, List.replicate K (0 : UInt8)⟩, ⟨1, 0, 0, List.replicate K (0 : UInt8)⟩]) wA) := by
   rw [hp]
   exact runXofs_any wA kind (⟨a901, nname, c901, name, a902, ncustom, c902, custom⟩ : NC) _ 8 8 _ AX.out ⟨P901.out, P902.out, fun y hy hn => P901.out.lt hy hn, fun y hy hn => P902.out.lt hy hn⟩ (by show nname ≤ _; omega) (by show ncustom ≤ _; omega) (by omega) (fun x hx => by
    simp only [List.mem_cons, List.not_mem_nil, or_false] at hx
    rcases hx with rfl | rfl | rfl | rfl | rfl | rfl | rfl | rfl
    all_goals simp only [List.length_replicate, List.length_nil, H_a.out, H_b.out, H_c.out]
    all_goals (show _ + (207 + (xpOf (k5 kind) name custom).ini.length) ≤ _; omega))
  have HRX := Lib.hid RX1
  have HP := Lib.hid hp
  clear RX1 hil hp
  refine HRX.out.mono ?_
  rintro e wB ⟨aB, cB, vs, rfl, RB, GB⟩
  have FB := FA.trans GB
  clear AX FA GB HRX
  have hrs : runX p [⟨0, 0, 0, a⟩, ⟨7, 0, 0, []⟩, ⟨0, 0, 0, b⟩, ⟨6, 0, 0, []⟩, ⟨9, 1, 0, []⟩, ⟨0, 1, 0, c⟩, ⟨1, 1, 0, List.replicate K (0 : UInt8)⟩, ⟨1, 0, 0, List.replicate K (0 : UInt8)⟩] = [⟨a.length, a, true, false⟩, ⟨0, [], true, false⟩, ⟨b.length, b, true, false⟩, ⟨0, [], false, false⟩, ⟨0, [], true, false⟩, ⟨c.length, c, true, false⟩, ⟨(List.replicate K (0 : UInt8)).length, xOut p ⟨(p.hd ++ a) ++ c, none⟩ (List.replicate K (0 : UInt8)).length, true, false⟩, ⟨(List.replicate K (0 : UInt8)).length, xOut p ⟨(p.hd ++ a) ++ b, none⟩ (List.replicate K (0 : UInt8)).length, true, false⟩] := by kernel_rfl
  simp only [List.length_replicate, List.append_assoc] at hrs
  have hl : (runX p [⟨0, 0, 0, a⟩, ⟨7, 0, 0, []⟩, ⟨0, 0, 0, b⟩, ⟨6, 0, 0, []⟩, ⟨9, 1, 0, []⟩, ⟨0, 1, 0, c⟩, ⟨1, 1, 0, List.replicate K (0 : UInt8)⟩, ⟨1, 0, 0, List.replicate K (0 : UInt8)⟩]).length = 8 := by rw [hrs]; rfl
  have RB' := RB
  rw [hl, hrs] at RB'
  rw [hl]
  clear hrs hl RB
  have D0 : SYFnXofSaves w wA.heap.size aB 8 cB [⟨a.length, a, true, false⟩, ⟨0, [], true, false⟩, ⟨b.length, b, true, false⟩, ⟨0, [], false, false⟩, ⟨0, [], true, false⟩, ⟨c.length, c, true, false⟩, ⟨K, xOut p ⟨p.hd ++ (a ++ c), none⟩ K, true, false⟩, ⟨K, xOut p ⟨p.hd ++ (a ++ b), none⟩ K, true, false⟩] vs pname nname cname name pcustom ncustom ccustom custom pa na ca a pb nb cb b pc nc cc c wB := ⟨RB', H0name.out.keep0 FB, H0custom.out.keep0 FB, H0a.out.keep0 FB, H0b.out.keep0 FB, H0c.out.keep0 FB, FB⟩
  clear RB' FB
  obtain ⟨g, hg, hc1, hc2, _⟩ := D0.rs.cells (by decide)
  subst hg
  unfold maxLen at hc2
  have q0 : wB.cell? ⟨g, 6, none⟩ = some (.bool true) := RsI_cell D0.rs 1 2 (by decide) (by decide)
  have q1 : wB.cell? ⟨g, 18, none⟩ = some (.bool true) := RsI_cell D0.rs 4 2 (by decide) (by decide)
  go_wp2_with fail
  clear q0 q1
  refine (joined_any _ _ na nc _ _ a c _ D0.sa D0.sc (by omega)).mono ?_
  rintro e u1 ⟨b1, d1, rfl, o1, f1⟩
  have D1 := D0.keep f1
  have Z1 := Lib.hid (o1.sl_at (by rw [List.length_append, La.out, Lc.out]))
  clear o1
  have q0 : u1.cell? ⟨g, 6, none⟩ = some (.bool true) := RsI_cell D1.rs 1 2 (by decide) (by decide)
  have q1 : u1.cell? ⟨g, 18, none⟩ = some (.bool true) := RsI_cell D1.rs 4 2 (by decide) (by decide)
  go_wp2_with fail
  clear q0 q1
  refine (HXO.out _ pname pcustom (na + nc) _ nname cname ncustom ccustom (a ++ c) K _ Z1.out D1.sname D1.scustom (by omega) (by omega)).mono ?_
  rintro e u2 ⟨b2, d2, rfl, o2, f2⟩
  have D2 := D1.keep f2
  have Z2 := Lib.hid o2.sl
  clear o2
  have q0 : u2.cell? ⟨g, 6, none⟩ = some (.bool true) := RsI_cell D2.rs 1 2 (by decide) (by decide)
  have q1 : u2.cell? ⟨g, 18, none⟩ = some (.bool true) := RsI_cell D2.rs 4 2 (by decide) (by decide)
  go_wp2_with fail
  clear q0 q1
  refine (tells_t _ _ _ _ _ _ _ vs 6 _ _ _ (xof p.r p.o p.ds (p.hd ++ (a ++ c)) K) D2.rs (by decide) Z2.out (xOut_new _ _ _)).mono ?_
  rintro e u3 ⟨rfl, f3⟩
  have D3 := D2.keep f3
  have q0 : u3.cell? ⟨g, 6, none⟩ = some (.bool true) := RsI_cell D3.rs 1 2 (by decide) (by decide)
  have q1 : u3.cell? ⟨g, 18, none⟩ = some (.bool true) := RsI_cell D3.rs 4 2 (by decide) (by decide)
  go_wp2_with fail
  clear q0 q1
  refine (joined_any _ _ na nb _ _ a b _ D3.sa D3.sb (by omega)).mono ?_
  rintro e u4 ⟨b4, d4, rfl, o4, f4⟩
  have D4 := D3.keep f4
  have Z4 := Lib.hid (o4.sl_at (by rw [List.length_append, La.out, Lb.out]))
  clear o4
  have q0 : u4.cell? ⟨g, 6, none⟩ = some (.bool true) := RsI_cell D4.rs 1 2 (by decide) (by decide)
  have q1 : u4.cell? ⟨g, 18, none⟩ = some (.bool true) := RsI_cell D4.rs 4 2 (by decide) (by decide)
  go_wp2_with fail
  clear q0 q1
  refine (HXO.out _ pname pcustom (na + nb) _ nname cname ncustom ccustom (a ++ b) K _ Z4.out D4.sname D4.scustom (by omega) (by omega)).mono ?_
  rintro e u5 ⟨b5, d5, rfl, o5, f5⟩
  have D5 := D4.keep f5
  have Z5 := Lib.hid o5.sl
  clear o5
  have q0 : u5.cell? ⟨g, 6, none⟩ = some (.bool true) := RsI_cell D5.rs 1 2 (by decide) (by decide)
  have q1 : u5.cell? ⟨g, 18, none⟩ = some (.bool true) := RsI_cell D5.rs 4 2 (by decide) (by decide)
  go_wp2_with fail
  clear q0 q1
  refine (tells_t _ _ _ _ _ _ _ vs 7 _ _ _ (xof p.r p.o p.ds (p.hd ++ (a ++ b)) K) D5.rs (by decide) Z5.out (xOut_new _ _ _)).mono ?_
  rintro e u6 ⟨rfl, f6⟩
  have D6 := D5.keep f6
  have q0 : u6.cell? ⟨g, 6, none⟩ = some (.bool true) := RsI_cell D6.rs 1 2 (by decide) (by decide)
  have q1 : u6.cell? ⟨g, 18, none⟩ = some (.bool true) := RsI_cell D6.rs 4 2 (by decide) (by decide)
  go_wp2_with fail
  clear q0 q1
  go_ret
  exact ⟨rfl, D6.fr⟩
end Go.Proofs.Ytmainjpffaebfaa
end

section
namespace Go.Proofs.Ytmainjpffaebfaa.rFnXofSaves
open Go.ChangeShapes Go.WideShapes Go.ChangeAt Go.RowKit Go.Sha
set_option linter.unusedVariables false

theorem own : ownKnob Try.prog.godebug = none := by kernel_rfl
theorem laidOut : laidOutB Try.prog = true := by kernel_rfl

set_option maxRecDepth 100000 in
theorem lifted (os : Os) (started : os.Started) (H : Type) (enc : TypeId × Value → H) (F : Stop.Interp) :
    ReturnsInHanded {} Try.checked os 3 .any ((Rows.OpenSpec.upto Rows.fnXofSavesSpec).pre6 enc Try.prog Try.f3 Rows.fnXofSavesUptoRow.domain false) (((Rows.OpenSpec.upto Rows.fnXofSavesSpec).at F).post enc Try.prog Try.f3 false true false false) := by
  refine returnsInHanded_of_cond (C := Try.checked) (s := Rows.OpenSpec.upto Rows.fnXofSavesSpec) (k := Rows.uptoSmall) rfl own started (by kernel_rfl) Try.func3
    (OpenSpec.witness (enc := enc) (C := Try.checked) (s := Rows.OpenSpec.upto Rows.fnXofSavesSpec) (k := Rows.uptoSmall) rfl false ⟨#[], #[.int .i64 0, .slice none 0 0, .slice none 0 0, .slice none 0 0, .slice none 0 0, .slice none 0 0, .int .u8 0], []⟩ 8 (by kernel_rfl) (by kernel_rfl) (by kernel_rfl)
      (x := ([.lit (.int .i64 0), .nil, .nil, .nil, .nil, .nil, .lit (.int .u8 0)], [], [])) (by kernel_rfl) rfl (by kernel_rfl)) ?_
  intro W base args ds gs before hval0 hW hcnd hk _
  have hval : ∀ (j : Nat) t v, Try.f3.params[j]? = some t → args[j]? = some v → Value.okWide Try.prog W .any base t v := hval0
  have hW' := hW
  obtain ⟨p, q, hA0, hV, rfl, hfz, hnd⟩ := hW
  have hA : DataW.TrodAll enc Try.prog W 0 (fun _ => true) true Try.f3.params.toList args.toList ds p := hA0
  rw [Try.params3] at hA hval
  obtain ⟨v0, vs0, d0, ds0, p0, q0, hargs, rfl, rfl, h0, r0⟩ := trodAll_cons hA
  obtain ⟨v1, vs1, d1, ds1, p1, q1, rfl, rfl, rfl, h1, r1⟩ := trodAll_cons r0
  obtain ⟨v2, vs2, d2, ds2, p2, q2, rfl, rfl, rfl, h2, r2⟩ := trodAll_cons r1
  obtain ⟨v3, vs3, d3, ds3, p3, q3, rfl, rfl, rfl, h3, r3⟩ := trodAll_cons r2
  obtain ⟨v4, vs4, d4, ds4, p4, q4, rfl, rfl, rfl, h4, r4⟩ := trodAll_cons r3
  obtain ⟨v5, vs5, d5, ds5, p5, q5, rfl, rfl, rfl, h5, r5⟩ := trodAll_cons r4
  obtain ⟨v6, vs6, d6, ds6, p6, q6, rfl, rfl, rfl, h6, r6⟩ := trodAll_cons r5
  obtain ⟨rfl, rfl, rfl⟩ := trodAll_nil r6
  obtain rfl : args = #[v0, v1, v2, v3, v4, v5, v6] := by cases args; simp_all
  obtain ⟨rfl, rfl⟩ := trodVars_none hV
  simp only [List.append_nil] at hk
  have hbk : Rows.uptoBulkAll [d0, d1, d2, d3, d4, d5, d6] ≤ 1048576 := of_decide_eq_true hk
  simp only [Rows.uptoBulkAll] at hbk
  obtain ⟨a0, rfl, rfl, rfl, w0⟩ := open_int Try.underlying3 (hval 0 3 v0 rfl rfl) h0
  obtain ⟨a1, len1, cap1, rfl⟩ := okWide_slice Try.underlying22 (hval 1 22 v1 rfl rfl)
  have k1 := h1
  have lt1 : ∀ x ∈ p1, x.block < W.heap.size := by obtain ⟨m, hm⟩ := k1; exact DataW.trod_lt m _ _ _ hm
  obtain ⟨fuel1, hf1⟩ := h1
  obtain ⟨l1, s1, dl1⟩ := open_bytes Try.underlying22 Try.underlying5 (by kernel_rfl) hf1
  have b1 := DLen_bulk dl1
  obtain ⟨a2, len2, cap2, rfl⟩ := okWide_slice Try.underlying22 (hval 2 22 v2 rfl rfl)
  have k2 := h2
  have lt2 : ∀ x ∈ p2, x.block < W.heap.size := by obtain ⟨m, hm⟩ := k2; exact DataW.trod_lt m _ _ _ hm
  obtain ⟨fuel2, hf2⟩ := h2
  obtain ⟨l2, s2, dl2⟩ := open_bytes Try.underlying22 Try.underlying5 (by kernel_rfl) hf2
  have b2 := DLen_bulk dl2
  obtain ⟨a3, len3, cap3, rfl⟩ := okWide_slice Try.underlying22 (hval 3 22 v3 rfl rfl)
  have k3 := h3
  have lt3 : ∀ x ∈ p3, x.block < W.heap.size := by obtain ⟨m, hm⟩ := k3; exact DataW.trod_lt m _ _ _ hm
  obtain ⟨fuel3, hf3⟩ := h3
  obtain ⟨l3, s3, dl3⟩ := open_bytes Try.underlying22 Try.underlying5 (by kernel_rfl) hf3
  have b3 := DLen_bulk dl3
  obtain ⟨a4, len4, cap4, rfl⟩ := okWide_slice Try.underlying22 (hval 4 22 v4 rfl rfl)
  have k4 := h4
  have lt4 : ∀ x ∈ p4, x.block < W.heap.size := by obtain ⟨m, hm⟩ := k4; exact DataW.trod_lt m _ _ _ hm
  obtain ⟨fuel4, hf4⟩ := h4
  obtain ⟨l4, s4, dl4⟩ := open_bytes Try.underlying22 Try.underlying5 (by kernel_rfl) hf4
  have b4 := DLen_bulk dl4
  obtain ⟨a5, len5, cap5, rfl⟩ := okWide_slice Try.underlying22 (hval 5 22 v5 rfl rfl)
  have k5 := h5
  have lt5 : ∀ x ∈ p5, x.block < W.heap.size := by obtain ⟨m, hm⟩ := k5; exact DataW.trod_lt m _ _ _ hm
  obtain ⟨fuel5, hf5⟩ := h5
  obtain ⟨l5, s5, dl5⟩ := open_bytes Try.underlying22 Try.underlying5 (by kernel_rfl) hf5
  have b5 := DLen_bulk dl5
  obtain ⟨a6, rfl, rfl, rfl, w6⟩ := open_int Try.underlying5 (hval 6 5 v6 rfl rfl) h6
  have u6 := wf_u8 w6
  obtain ⟨m6, hm6⟩ : ∃ m : Nat, a6 = (m : Int) := ⟨a6.toNat, by omega⟩
  subst hm6
  simp only [Rows.uptoBulk] at hbk
  clear hA0 hval0
  refine (fnXofSaves_walk a0 a1 len1 cap1 l1 a2 len2 cap2 l2 a3 len3 cap3 l3 a4 len4 cap4 l4 a5 len5 cap5 l5 m6 (by omega) W s1 (by omega) s2 (by omega) s3 (by omega) s4 (by omega) s5 (by omega)).mono fun e W' ⟨he, hfr⟩ => ?_
  have bel := hfr.below
  subst he
  exact ⟨_, rfl, _, _, _, [], _, [], hW', trodAll_mk1 (shut_bool Try.underlying4 _), (trodAll_cons_mk (shut_int Try.underlying3 w0) (trodAll_cons_mk (Below.trod laidOut (by kernel_rfl) (of_decide_eq_true (by kernel_rfl)) k1 bel lt1) (trodAll_cons_mk (Below.trod laidOut (by kernel_rfl) (of_decide_eq_true (by kernel_rfl)) k2 bel lt2) (trodAll_cons_mk (Below.trod laidOut (by kernel_rfl) (of_decide_eq_true (by kernel_rfl)) k3 bel lt3) (trodAll_cons_mk (Below.trod laidOut (by kernel_rfl) (of_decide_eq_true (by kernel_rfl)) k4 bel lt4) (trodAll_cons_mk (Below.trod laidOut (by kernel_rfl) (of_decide_eq_true (by kernel_rfl)) k5 bel lt5) (trodAll_cons_mk (shut_int Try.underlying5 w6) trodAll_mk0))))))), rfl, bel.frame _, fun h => by cases h⟩

theorem proved : Rows.FnXofSavesUptoSaid :=
  OpenClaim.holds_of_cond 3 Try.f3 rfl rfl rfl rfl rfl rfl rfl ⟨rfl, rfl, rfl, rfl, rfl⟩ rfl rfl rfl rfl rfl (by kernel_rfl) Try.func3 (by kernel_rfl)
    (of_decide_eq_true (by kernel_rfl)) (by unfold Func.isWrapper; first | (rw [if_pos (by decide +kernel)]; kernel_rfl) | (rw [if_neg (by decide +kernel)]; exact ⟨rfl, rfl⟩))
    (fun os started H enc _ F => lifted os started H enc F)
#print axioms proved
end Go.Proofs.Ytmainjpffaebfaa.rFnXofSaves
namespace Go.Proofs.Ytmainjpffaebfaa
theorem fnXofSaves_holds : Rows.FnXofSavesUptoSaid := rFnXofSaves.proved
end Go.Proofs.Ytmainjpffaebfaa
end
