/- FnXofSavesReading: for every input of bulk at most 1048576 the law returns true, and each argument reads afterwards as it read before. The bound on the bulk is the given one. -/
import Derived.Test.YtmainjpffaebfaaGA
import Derived.Test.YtmainjpffaebfaaGB
import Derived.Test.YtmainjpffaebfaaGC
import Derived.Test.YtmainjpffaebfaaGD
import Derived.Test.YtmainjpffaebfaaGE
import Derived.Test.YtmainjpffaebfaaGF
import Derived.Test.YtmainjpffaebfaaGG
import Derived.Test.YtmainjpffaebfaaGH
import Derived.Test.YtmainjpffaebfaaGN
import Derived.Test.YtmainjpffaebfaaGX
import Derived.Test.YtmainjpffaebfaaGY
import Derived.Test.YtmainjpffaebfaaGXA
import Derived.Test.YtmainjpffaebfaaGXB
import Derived.Test.YtmainjpffaebfaaGXI
import Derived.Test.YtmainjpffaebfaaGXJ
import Derived.Test.YtmainjpffaebfaaGXC
import Derived.Test.YtmainjpffaebfaaGXK
import Derived.Test.YtmainjpffaebfaaGXD
import Derived.Test.YtmainjpffaebfaaGXG
import Derived.Test.YtmainjpffaebfaaGXF
import Derived.Test.YtmainjpffaebfaaGXH
import Derived.Test.YtmainjpffaebfaaGXO
import Derived.Test.YtmainjpffaebfaaGXQ
import Derived.Below
import Derived.ChangeOld
import Derived.Deep.RegionLaw
import Derived.ShutString
section
namespace Go.Proofs.Ytmainjpffaebfaa
open Go.ChangeShapes Go.WideShapes Go.ChangeAt Go.RowKit Go.Sha
/-- what the last statement reads -/
structure SYFnXofSavesReading (w : World) (base : Nat) (ax : Option Addr) (nx cx : Nat) (rs : List Res) (vs : List (Option Addr × Nat)) (pname : Option Addr) (nname cname : Nat) (name : Bs) (pcustom : Option Addr) (ncustom ccustom : Nat) (custom : Bs) (pa : Option Addr) (na ca : Nat) (a : Bs) (w' : World) : Prop where
  rs : RsI 32 5 w' base [] ax nx cx rs vs
  sname : Sl w' pname nname cname name
  scustom : Sl w' pcustom ncustom ccustom custom
  sa : Sl w' pa na ca a
  fr : Fr [] w w'
theorem SYFnXofSavesReading.keep {w : World} {base : Nat} {ax : Option Addr} {nx cx : Nat} {rs : List Res} {vs : List (Option Addr × Nat)} {pname : Option Addr} {nname cname : Nat} {name : Bs} {pcustom : Option Addr} {ncustom ccustom : Nat} {custom : Bs} {pa : Option Addr} {na ca : Nat} {a : Bs} {w1 w2 : World} (h : SYFnXofSavesReading w base ax nx cx rs vs pname nname cname name pcustom ncustom ccustom custom pa na ca a w1) (f : Fr [] w1 w2) : SYFnXofSavesReading w base ax nx cx rs vs pname nname cname name pcustom ncustom ccustom custom pa na ca a w2 :=
  ⟨h.rs.keep f (by simp), h.sname.keep0 f, h.scustom.keep0 f, h.sa.keep0 f, h.fr.trans f⟩
set_option maxRecDepth 100000 in
set_option maxHeartbeats 6000000 in
theorem fnXofSavesReading_walk (kind : Int) (pname : Option Addr) (nname cname : Nat) (name : Bs) (pcustom : Option Addr) (ncustom ccustom : Nat) (custom : Bs) (pa : Option Addr) (na ca : Nat) (a : Bs) (n : Nat) (hun : n < 256) (m : Nat) (hum : m < 256) (w : World) (hname : Sl w pname nname cname name) (hnname : nname ≤ 1048576) (hcustom : Sl w pcustom ncustom ccustom custom) (hncustom : ncustom ≤ 1048576) (ha : Sl w pa na ca a) (hna : na ≤ 1048576) :
    Calls Try.prog 4 #[.int .i64 kind, .slice pname nname cname, .slice pcustom ncustom ccustom, .slice pa na ca, .int .u8 (n : Int), .int .u8 (m : Int)] w (RetB true w) := by
  have H_name := Lib.hid hname.len
  have Lname := H_name
  have H0name := Lib.hid hname
  clear hname
  have H_custom := Lib.hid hcustom.len
  have Lcustom := H_custom
  have H0custom := Lib.hid hcustom
  clear hcustom
  have H_a := Lib.hid ha.len
  have La := H_a
  have H0a := Lib.hid ha
  clear ha
  have cu0 : IntKind.i64.wrap (n : Int) = (n : Int) := IntWalk.i64_in _ (by omega)
  have cu1 : IntKind.i64.wrap (m : Int) = (m : Int) := IntWalk.i64_in _ (by omega)
  obtain ⟨I, hI⟩ : ∃ I, I = n + 1 := ⟨_, rfl⟩
  obtain ⟨J, hJ⟩ : ∃ J, J = m + 1 := ⟨_, rfl⟩
  obtain ⟨M, hM⟩ : ∃ M, M = I + J := ⟨_, rfl⟩
  have hGI : 0 < I := by omega
  have hZI : (n : Int) + 1 = (I : Int) := by omega
  have hBI : I ≤ 1024 := by omega
  have hWI : IntKind.i64.wrap (I : Int) = (I : Int) := IntWalk.i64_in _ (by omega)
  have hGJ : 0 < J := by omega
  have hZJ : (m : Int) + 1 = (J : Int) := by omega
  have hBJ : J ≤ 1024 := by omega
  have hWJ : IntKind.i64.wrap (J : Int) = (J : Int) := IntWalk.i64_in _ (by omega)
  have hGM : 0 < M := by omega
  have hZM : (I : Int) + (J : Int) = (M : Int) := by omega
  have hBM : M ≤ 1024 := by omega
  have hWM : IntKind.i64.wrap (M : Int) = (M : Int) := IntWalk.i64_in _ (by omega)
  have HI := Lib.hid hI
  have HJ := Lib.hid hJ
  have HM := Lib.hid hM
  clear hM
  clear hJ
  clear hI
  go_enter Try.func4, Try.ntmps4
  go_wp2_with fail
  refine (own_n _ nname _ name _ H0name.out (by omega)).mono ?_
  rintro e wx ⟨a901, c901, rfl, O901, G⟩
  have Fx := G
  have P901 := Lib.hid (O901.sl_at H_name.out)
  clear O901 G
  go_wp2_with fail
  refine (own_n _ ncustom _ custom _ (H0custom.out.keep0 Fx) (by omega)).mono ?_
  rintro e wy ⟨a902, c902, rfl, O902, G⟩
  have F0 := Fx.trans G
  replace P901 := Lib.hid (P901.out.keep0 G)
  have P902 := Lib.hid (O902.sl_at H_custom.out)
  clear O902 G Fx
  go_wp2_with fail
  refine (lwrite_any 0 _ na _ a _ (H0a.out.keep0 F0) (by omega)).mono ?_
  rintro e w1 ⟨a1, c1, rfl, O1, G⟩
  have F1 := F0.trans G
  replace P901 := Lib.hid (P901.out.keep0 G)
  replace P902 := Lib.hid (P902.out.keep0 G)
  have P1 := Lib.hid (O1.sl_at H_a.out)
  clear O1 G
  go_wp2_with fail
  refine (lplain_any 7 0 _).mono ?_
  rintro e w2 ⟨rfl, G⟩
  have F2 := F1.trans G
  replace P901 := Lib.hid (P901.out.keep0 G)
  replace P902 := Lib.hid (P902.out.keep0 G)
  replace P1 := Lib.hid (P1.out.keep0 G)
  clear G
  go_wp2_with fail
  refine (lread_any 0 I _ (by omega)).mono ?_
  rintro e w3 ⟨a3, c3, rfl, O3, G⟩
  have F3 := F2.trans G
  replace P901 := Lib.hid (P901.out.keep0 G)
  replace P902 := Lib.hid (P902.out.keep0 G)
  replace P1 := Lib.hid (P1.out.keep0 G)
  have P3 := Lib.hid (O3.sl_at (n := I) List.length_replicate)
  clear O3 G
  go_wp2_with fail
  refine (lplain_any 7 0 _).mono ?_
  rintro e w4 ⟨rfl, G⟩
  have F4 := F3.trans G
  replace P901 := Lib.hid (P901.out.keep0 G)
  replace P902 := Lib.hid (P902.out.keep0 G)
  replace P1 := Lib.hid (P1.out.keep0 G)
  replace P3 := Lib.hid (P3.out.keep0 G)
  clear G
  go_wp2_with fail
  refine (lread_any 0 J _ (by omega)).mono ?_
  rintro e w5 ⟨a5, c5, rfl, O5, G⟩
  have F5 := F4.trans G
  replace P901 := Lib.hid (P901.out.keep0 G)
  replace P902 := Lib.hid (P902.out.keep0 G)
  replace P1 := Lib.hid (P1.out.keep0 G)
  replace P3 := Lib.hid (P3.out.keep0 G)
  have P5 := Lib.hid (O5.sl_at (n := J) List.length_replicate)
  clear O5 G
  go_wp2_with fail
  refine (lplain_any 6 0 _).mono ?_
  rintro e w6 ⟨rfl, G⟩
  have F6 := F5.trans G
  replace P901 := Lib.hid (P901.out.keep0 G)
  replace P902 := Lib.hid (P902.out.keep0 G)
  replace P1 := Lib.hid (P1.out.keep0 G)
  replace P3 := Lib.hid (P3.out.keep0 G)
  replace P5 := Lib.hid (P5.out.keep0 G)
  clear G
  go_wp2_with fail
  refine (lload_any 1 1 _).mono ?_
  rintro e w7 ⟨rfl, G⟩
  have F7 := F6.trans G
  replace P901 := Lib.hid (P901.out.keep0 G)
  replace P902 := Lib.hid (P902.out.keep0 G)
  replace P1 := Lib.hid (P1.out.keep0 G)
  replace P3 := Lib.hid (P3.out.keep0 G)
  replace P5 := Lib.hid (P5.out.keep0 G)
  clear G
  go_wp2_with fail
  refine (lread_any 1 J _ (by omega)).mono ?_
  rintro e w8 ⟨a8, c8, rfl, O8, G⟩
  have F8 := F7.trans G
  replace P901 := Lib.hid (P901.out.keep0 G)
  replace P902 := Lib.hid (P902.out.keep0 G)
  replace P1 := Lib.hid (P1.out.keep0 G)
  replace P3 := Lib.hid (P3.out.keep0 G)
  replace P5 := Lib.hid (P5.out.keep0 G)
  have P8 := Lib.hid (O8.sl_at (n := J) List.length_replicate)
  clear O8 G
  go_wp2_with fail
  refine (lload_any 0 0 _).mono ?_
  rintro e w9 ⟨rfl, G⟩
  have F9 := F8.trans G
  replace P901 := Lib.hid (P901.out.keep0 G)
  replace P902 := Lib.hid (P902.out.keep0 G)
  replace P1 := Lib.hid (P1.out.keep0 G)
  replace P3 := Lib.hid (P3.out.keep0 G)
  replace P5 := Lib.hid (P5.out.keep0 G)
  replace P8 := Lib.hid (P8.out.keep0 G)
  clear G
  go_wp2_with fail
  refine (lwrite_any 0 _ na _ a _ (H0a.out.keep0 F9) (by omega)).mono ?_
  rintro e w10 ⟨a10, c10, rfl, O10, G⟩
  have F10 := F9.trans G
  replace P901 := Lib.hid (P901.out.keep0 G)
  replace P902 := Lib.hid (P902.out.keep0 G)
  replace P1 := Lib.hid (P1.out.keep0 G)
  replace P3 := Lib.hid (P3.out.keep0 G)
  replace P5 := Lib.hid (P5.out.keep0 G)
  replace P8 := Lib.hid (P8.out.keep0 G)
  have P10 := Lib.hid (O10.sl_at H_a.out)
  clear O10 G
  go_wp2_with fail
  refine (lread_any 0 I _ (by omega)).mono ?_
  rintro e w11 ⟨a11, c11, rfl, O11, G⟩
  have F11 := F10.trans G
  replace P901 := Lib.hid (P901.out.keep0 G)
  replace P902 := Lib.hid (P902.out.keep0 G)
  replace P1 := Lib.hid (P1.out.keep0 G)
  replace P3 := Lib.hid (P3.out.keep0 G)
  replace P5 := Lib.hid (P5.out.keep0 G)
  replace P8 := Lib.hid (P8.out.keep0 G)
  replace P10 := Lib.hid (P10.out.keep0 G)
  have P11 := Lib.hid (O11.sl_at (n := I) List.length_replicate)
  clear O11 G
  go_wp2_with fail
  have GA : Fr [] w11 (w11.alloc (.cells #[.int .i64 0, .int .i64 0, .int .i64 0, .slice a1 na c1, .int .i64 7, .int .i64 0, .int .i64 0, .slice none 0 0, .int .i64 1, .int .i64 0, .int .i64 0, .slice a3 I c3, .int .i64 7, .int .i64 0, .int .i64 0, .slice none 0 0, .int .i64 1, .int .i64 0, .int .i64 0, .slice a5 J c5, .int .i64 6, .int .i64 0, .int .i64 0, .slice none 0 0, .int .i64 9, .int .i64 1, .int .i64 1, .slice none 0 0, .int .i64 1, .int .i64 1, .int .i64 0, .slice a8 J c8, .int .i64 9, .int .i64 0, .int .i64 0, .slice none 0 0, .int .i64 0, .int .i64 0, .int .i64 0, .slice a10 na c10, .int .i64 1, .int .i64 0, .int .i64 0, .slice a11 I c11] 27)) := (Fr.refl _ _).alloc _
  have AX : Hid (ActsAt (w11.alloc (.cells #[.int .i64 0, .int .i64 0, .int .i64 0, .slice a1 na c1, .int .i64 7, .int .i64 0, .int .i64 0, .slice none 0 0, .int .i64 1, .int .i64 0, .int .i64 0, .slice a3 I c3, .int .i64 7, .int .i64 0, .int .i64 0, .slice none 0 0, .int .i64 1, .int .i64 0, .int .i64 0, .slice a5 J c5, .int .i64 6, .int .i64 0, .int .i64 0, .slice none 0 0, .int .i64 9, .int .i64 1, .int .i64 1, .slice none 0 0, .int .i64 1, .int .i64 1, .int .i64 0, .slice a8 J c8, .int .i64 9, .int .i64 0, .int .i64 0, .slice none 0 0, .int .i64 0, .int .i64 0, .int .i64 0, .slice a10 na c10, .int .i64 1, .int .i64 0, .int .i64 0, .slice a11 I c11] 27)) (some ⟨w11.heap.size, 0, none⟩) 11 11 (([(⟨0, 0, 0, a⟩, (a1, na, c1)), (⟨7, 0, 0, []⟩, (none, 0, 0)), (⟨1, 0, 0, List.replicate I (0 : UInt8)⟩, (a3, I, c3)), (⟨7, 0, 0, []⟩, (none, 0, 0)), (⟨1, 0, 0, List.replicate J (0 : UInt8)⟩, (a5, J, c5)), (⟨6, 0, 0, []⟩, (none, 0, 0)), (⟨9, 1, 1, []⟩, (none, 0, 0)), (⟨1, 1, 0, List.replicate J (0 : UInt8)⟩, (a8, J, c8)), (⟨9, 0, 0, []⟩, (none, 0, 0)), (⟨0, 0, 0, a⟩, (a10, na, c10)), (⟨1, 0, 0, List.replicate I (0 : UInt8)⟩, (a11, I, c11))] : List (Actn × (Option Addr × Nat × Nat))).map (·.1))) := ActsAt.of_list [(⟨0, 0, 0, a⟩, (a1, na, c1)), (⟨7, 0, 0, []⟩, (none, 0, 0)), (⟨1, 0, 0, List.replicate I (0 : UInt8)⟩, (a3, I, c3)), (⟨7, 0, 0, []⟩, (none, 0, 0)), (⟨1, 0, 0, List.replicate J (0 : UInt8)⟩, (a5, J, c5)), (⟨6, 0, 0, []⟩, (none, 0, 0)), (⟨9, 1, 1, []⟩, (none, 0, 0)), (⟨1, 1, 0, List.replicate J (0 : UInt8)⟩, (a8, J, c8)), (⟨9, 0, 0, []⟩, (none, 0, 0)), (⟨0, 0, 0, a⟩, (a10, na, c10)), (⟨1, 0, 0, List.replicate I (0 : UInt8)⟩, (a11, I, c11))] (Go.heap_alloc_new w11 _) (fun p hp => by
    simp only [List.mem_cons, List.not_mem_nil, or_false] at hp
    rcases hp with rfl | rfl | rfl | rfl | rfl | rfl | rfl | rfl | rfl | rfl | rfl
    · exact ⟨P1.out.keep0 GA, by simp only; omega⟩
    · exact ⟨Sl.nil0 _, by simp⟩
    · exact ⟨P3.out.keep0 GA, by simp only; omega⟩
    · exact ⟨Sl.nil0 _, by simp⟩
    · exact ⟨P5.out.keep0 GA, by simp only; omega⟩
    · exact ⟨Sl.nil0 _, by simp⟩
    · exact ⟨Sl.nil0 _, by simp⟩
    · exact ⟨P8.out.keep0 GA, by simp only; omega⟩
    · exact ⟨Sl.nil0 _, by simp⟩
    · exact ⟨P10.out.keep0 GA, by simp only; omega⟩
    · exact ⟨P11.out.keep0 GA, by simp only; omega⟩
    ) (by simp [maxLen])
  have FA := F11.trans GA
  replace P901 := Lib.hid (P901.out.keep0 GA)
  replace P902 := Lib.hid (P902.out.keep0 GA)
  generalize (w11.alloc (.cells #[.int .i64 0, .int .i64 0, .int .i64 0, .slice a1 na c1, .int .i64 7, .int .i64 0, .int .i64 0, .slice none 0 0, .int .i64 1, .int .i64 0, .int .i64 0, .slice a3 I c3, .int .i64 7, .int .i64 0, .int .i64 0, .slice none 0 0, .int .i64 1, .int .i64 0, .int .i64 0, .slice a5 J c5, .int .i64 6, .int .i64 0, .int .i64 0, .slice none 0 0, .int .i64 9, .int .i64 1, .int .i64 1, .slice none 0 0, .int .i64 1, .int .i64 1, .int .i64 0, .slice a8 J c8, .int .i64 9, .int .i64 0, .int .i64 0, .slice none 0 0, .int .i64 0, .int .i64 0, .int .i64 0, .slice a10 na c10, .int .i64 1, .int .i64 0, .int .i64 0, .slice a11 I c11] 27)) = wA at AX FA P901 P902 ⊢
  clear GA P1 P3 P5 P8 P10 P11
  obtain ⟨p, hp⟩ : ∃ p, p = xpOf (k5 kind) name custom := ⟨_, rfl⟩
  have HXO := Lib.hid (fun ad an ac nd cd nn cn ns cc data L w => xofOutput_any kind ad an ac nd cd nn cn ns cc data name custom L p hp w)
  have hil : (xpOf (k5 kind) name custom).ini.length ≤ 4398046511104 := (xpOf_hd (k5 kind) name custom (by rw [H_name.out]; omega) (by rw [H_custom.out]; omega)).il
  have RX1 : Calls Try.prog 9 #[.int .i64 kind, .slice a901 nname c901, .slice a902 ncustom c902, .slice (some ⟨w11.heap.size, 0, none⟩) 11 11] wA (RunXR (runX p [⟨0, 0, 0, a⟩, ⟨7, 0, 0, []⟩, ⟨1, 0, 0, List.replicate I (0 : UInt8)⟩, ⟨7, 0, 0, []⟩, ⟨1, 0, 0, List.replicate J (0 : UInt8)⟩, ⟨6, 0, 0, []⟩, ⟨9, 1, 1, []⟩, ⟨1, 1, 0, List.replicate J (0 : UInt8)⟩, ⟨9, 0, 0, []⟩, ⟨0, 0, 0, a⟩, ⟨1, 0, 0, List.replicate I (0 : UInt8)⟩]) wA) := by
   rw [hp]
   exact runXofs_any wA kind (⟨a901, nname, c901, name, a902, ncustom, c902, custom⟩ : NC) _ 11 11 _ AX.out ⟨P901.out, P902.out, fun y hy hn => P901.out.lt hy hn, fun y hy hn => P902.out.lt hy hn⟩ (by show nname ≤ _; omega) (by show ncustom ≤ _; omega) (by omega) (fun x hx => by
    simp only [List.mem_cons, List.not_mem_nil, or_false] at hx
    rcases hx with rfl | rfl | rfl | rfl | rfl | rfl | rfl | rfl | rfl | rfl | rfl
    all_goals simp only [List.length_replicate, List.length_nil, H_a.out]
    all_goals (show _ + (207 + (xpOf (k5 kind) name custom).ini.length) ≤ _; omega))
  have HRX := Lib.hid RX1
  have HP := Lib.hid hp
  clear RX1 hil hp
  refine HRX.out.mono ?_
  rintro e wB ⟨aB, cB, vs, rfl, RB, GB⟩
  have FB := FA.trans GB
  clear AX FA GB HRX
  have hrs : runX p [⟨0, 0, 0, a⟩, ⟨7, 0, 0, []⟩, ⟨1, 0, 0, List.replicate I (0 : UInt8)⟩, ⟨7, 0, 0, []⟩, ⟨1, 0, 0, List.replicate J (0 : UInt8)⟩, ⟨6, 0, 0, []⟩, ⟨9, 1, 1, []⟩, ⟨1, 1, 0, List.replicate J (0 : UInt8)⟩, ⟨9, 0, 0, []⟩, ⟨0, 0, 0, a⟩, ⟨1, 0, 0, List.replicate I (0 : UInt8)⟩] = [⟨a.length, a, true, false⟩, ⟨0, [], true, false⟩, ⟨(List.replicate I (0 : UInt8)).length, xOut p ⟨p.hd ++ a, none⟩ (List.replicate I (0 : UInt8)).length, true, false⟩, ⟨0, [], true, false⟩, ⟨(List.replicate J (0 : UInt8)).length, xOut p (XS.read ⟨p.hd ++ a, none⟩ (List.replicate I (0 : UInt8)).length) (List.replicate J (0 : UInt8)).length, true, false⟩, ⟨0, [], false, false⟩, ⟨0, [], true, false⟩, ⟨(List.replicate J (0 : UInt8)).length, xOut p (XS.read ⟨p.hd ++ a, none⟩ (List.replicate I (0 : UInt8)).length) (List.replicate J (0 : UInt8)).length, true, false⟩, ⟨0, [], true, false⟩, ⟨a.length, a, true, false⟩, ⟨(List.replicate I (0 : UInt8)).length, xOut p ⟨(p.hd ++ a) ++ a, none⟩ (List.replicate I (0 : UInt8)).length, true, false⟩] := by kernel_rfl
  simp only [List.length_replicate, List.append_assoc] at hrs
  have hl : (runX p [⟨0, 0, 0, a⟩, ⟨7, 0, 0, []⟩, ⟨1, 0, 0, List.replicate I (0 : UInt8)⟩, ⟨7, 0, 0, []⟩, ⟨1, 0, 0, List.replicate J (0 : UInt8)⟩, ⟨6, 0, 0, []⟩, ⟨9, 1, 1, []⟩, ⟨1, 1, 0, List.replicate J (0 : UInt8)⟩, ⟨9, 0, 0, []⟩, ⟨0, 0, 0, a⟩, ⟨1, 0, 0, List.replicate I (0 : UInt8)⟩]).length = 11 := by rw [hrs]; rfl
  have RB' := RB
  rw [hl, hrs] at RB'
  rw [hl]
  clear hrs hl RB
  have D0 : SYFnXofSavesReading w wA.heap.size aB 11 cB [⟨a.length, a, true, false⟩, ⟨0, [], true, false⟩, ⟨I, xOut p ⟨p.hd ++ a, none⟩ I, true, false⟩, ⟨0, [], true, false⟩, ⟨J, xOut p (XS.read ⟨p.hd ++ a, none⟩ I) J, true, false⟩, ⟨0, [], false, false⟩, ⟨0, [], true, false⟩, ⟨J, xOut p (XS.read ⟨p.hd ++ a, none⟩ I) J, true, false⟩, ⟨0, [], true, false⟩, ⟨a.length, a, true, false⟩, ⟨I, xOut p ⟨p.hd ++ (a ++ a), none⟩ I, true, false⟩] vs pname nname cname name pcustom ncustom ccustom custom pa na ca a wB := ⟨RB', H0name.out.keep0 FB, H0custom.out.keep0 FB, H0a.out.keep0 FB, FB⟩
  clear RB' FB
  obtain ⟨g, hg, hc1, hc2, _⟩ := D0.rs.cells (by decide)
  subst hg
  unfold maxLen at hc2
  have D00 := D0
  replace D0 := D00.keep (Fr.refl _ _).drew
  clear D00
  have tok1 : True := trivial
  have tok2 : True := trivial
  have tok3 : True := trivial
  have tok4 : True := trivial
  have tok5 : True := trivial
  have tok6 : True := trivial
  go_wp2_with fail
  go_region_held3 (fun w' => w'.cell? ⟨g, 17, none⟩ = some (.slice (vs.getD 4 (none, 0)).1 (xOut p (XS.read ⟨p.hd ++ a, none⟩ I) J).length (vs.getD 4 (none, 0)).2) ∧ w'.cell? ⟨g, 29, none⟩ = some (.slice (vs.getD 7 (none, 0)).1 (xOut p (XS.read ⟨p.hd ++ a, none⟩ I) J).length (vs.getD 7 (none, 0)).2) ∧ SYFnXofSavesReading w wA.heap.size (some ⟨g, 0, none⟩) 11 cB [⟨a.length, a, true, false⟩, ⟨0, [], true, false⟩, ⟨I, xOut p ⟨p.hd ++ a, none⟩ I, true, false⟩, ⟨0, [], true, false⟩, ⟨J, xOut p (XS.read ⟨p.hd ++ a, none⟩ I) J, true, false⟩, ⟨0, [], false, false⟩, ⟨0, [], true, false⟩, ⟨J, xOut p (XS.read ⟨p.hd ++ a, none⟩ I) J, true, false⟩, ⟨0, [], true, false⟩, ⟨a.length, a, true, false⟩, ⟨I, xOut p ⟨p.hd ++ (a ++ a), none⟩ I, true, false⟩] vs pname nname cname name pcustom ncustom ccustom custom pa na ca a w')
    (first | (exact ⟨RsI_cell D6.rs 4 1 (by decide) (by decide), RsI_cell D6.rs 7 1 (by decide) (by decide), D6⟩) | (exact ⟨RsI_cell D5.rs 4 1 (by decide) (by decide), RsI_cell D5.rs 7 1 (by decide) (by decide), D5⟩) | (exact ⟨RsI_cell D4.rs 4 1 (by decide) (by decide), RsI_cell D4.rs 7 1 (by decide) (by decide), D4⟩) | (exact ⟨RsI_cell D3.rs 4 1 (by decide) (by decide), RsI_cell D3.rs 7 1 (by decide) (by decide), D3⟩) | (exact ⟨RsI_cell D2.rs 4 1 (by decide) (by decide), RsI_cell D2.rs 7 1 (by decide) (by decide), D2⟩) | (exact ⟨RsI_cell D1.rs 4 1 (by decide) (by decide), RsI_cell D1.rs 7 1 (by decide) (by decide), D1⟩) | (exact ⟨RsI_cell D0.rs 4 1 (by decide) (by decide), RsI_cell D0.rs 7 1 (by decide) (by decide), D0⟩) | (go_keep))
    (first | (go_at_call 16; have _t := tok1; refine (HXO.out _ pname pcustom na _ nname cname ncustom ccustom (a) M _ D0.sa D0.sname D0.scustom (by omega) (by omega)).mono ?_; rintro e u1 ⟨b1, d1, rfl, o1, f1⟩; have D1 := D0.keep f1; obtain ⟨g1, cur1, rfl, _, _, hcl1, hcm1, _, _⟩ := o1.open (Nat.lt_of_lt_of_eq hGM (xof_length _ _ _ _ _).symm); rw [xof_length] at hcl1 ⊢; unfold maxLen at hcm1; have hi1 : (I : Int) ≤ (M : Int) := (by have e := HM.out; omega); have hj1 : (M : Int) ≤ (d1 : Int) := (by omega); have hk1 : ¬ d1 = I := (by have e := HM.out; omega); have Z1 : Hid (Sl u1 (some ⟨g1, I, none⟩) (M - I) (d1 - I) _) := (by have e := (o1.sl_at (n := M) (xof_length _ _ _ _ _)).drop' I (by omega) (by omega); rw [Nat.zero_add] at e; exact e); clear o1; clear tok1) | (go_at_call 15; have _t := tok2; refine (tells_t _ _ _ _ _ _ _ vs 7 _ _ _ ((xof p.r p.o p.ds (p.hd ++ (a)) M).drop I) D1.rs (by decide) Z1.out (xOut_drop _ _ _ _ _ HM.out)).mono ?_; rintro e u2 ⟨rfl, f2⟩; have D2 := D1.keep f2; clear tok2) | (go_at_call 18; have _t := tok3; refine (same_t _ _ _ _ _ _ (xOut p (XS.read ⟨p.hd ++ a, none⟩ I) J) (xOut p (XS.read ⟨p.hd ++ a, none⟩ I) J) _ (RsI_sl D2.rs 4 (by decide)) (RsI_sl D2.rs 7 (by decide)) rfl).mono ?_; rintro e u3 ⟨rfl, f3⟩; have D3 := D2.keep f3; clear tok3) | (go_at_call 17; have _t := tok4; refine (joined_any _ _ na na _ _ a a _ D3.sa D3.sa (by omega)).mono ?_; rintro e u4 ⟨b4, d4, rfl, o4, f4⟩; have D4 := D3.keep f4; have Z4 := Lib.hid (o4.sl_at (by rw [List.length_append, La.out])); clear o4; clear tok4) | (go_at_call 16; have _t := tok5; refine (HXO.out _ pname pcustom (na + na) _ nname cname ncustom ccustom (a ++ a) I _ Z4.out D4.sname D4.scustom (by omega) (by omega)).mono ?_; rintro e u5 ⟨b5, d5, rfl, o5, f5⟩; have D5 := D4.keep f5; have Z5 := Lib.hid o5.sl; clear o5; clear tok5) | (go_at_call 15; have _t := tok6; refine (tells_t _ _ _ _ _ _ _ vs 10 _ _ _ (xof p.r p.o p.ds (p.hd ++ (a ++ a)) I) D5.rs (by decide) Z5.out (xOut_new _ _ _)).mono ?_; rintro e u6 ⟨rfl, f6⟩; have D6 := D5.keep f6; clear tok6))
  go_wp2_with fail
  go_ret
  exact ⟨by simp, D6.fr⟩
end Go.Proofs.Ytmainjpffaebfaa
end

section
namespace Go.Proofs.Ytmainjpffaebfaa.rFnXofSavesReading
open Go.ChangeShapes Go.WideShapes Go.ChangeAt Go.RowKit Go.Sha
set_option linter.unusedVariables false

theorem own : ownKnob Try.prog.godebug = none := by kernel_rfl
theorem laidOut : laidOutB Try.prog = true := by kernel_rfl

set_option maxRecDepth 100000 in
theorem lifted (os : Os) (started : os.Started) (H : Type) (enc : TypeId × Value → H) (F : Stop.Interp) :
    ReturnsInHanded {} Try.checked os 4 .any ((Rows.OpenSpec.upto Rows.fnXofSavesReadingSpec).pre6 enc Try.prog Try.f4 Rows.fnXofSavesReadingUptoRow.domain false) (((Rows.OpenSpec.upto Rows.fnXofSavesReadingSpec).at F).post enc Try.prog Try.f4 false true false false) := by
  refine returnsInHanded_of_cond (C := Try.checked) (s := Rows.OpenSpec.upto Rows.fnXofSavesReadingSpec) (k := Rows.uptoSmall) rfl own started (by kernel_rfl) Try.func4
    (OpenSpec.witness (enc := enc) (C := Try.checked) (s := Rows.OpenSpec.upto Rows.fnXofSavesReadingSpec) (k := Rows.uptoSmall) rfl false ⟨#[], #[.int .i64 0, .slice none 0 0, .slice none 0 0, .slice none 0 0, .int .u8 0, .int .u8 0], []⟩ 8 (by kernel_rfl) (by kernel_rfl) (by kernel_rfl)
      (x := ([.lit (.int .i64 0), .nil, .nil, .nil, .lit (.int .u8 0), .lit (.int .u8 0)], [], [])) (by kernel_rfl) rfl (by kernel_rfl)) ?_
  intro W base args ds gs before hval0 hW hcnd hk _
  have hval : ∀ (j : Nat) t v, Try.f4.params[j]? = some t → args[j]? = some v → Value.okWide Try.prog W .any base t v := hval0
  have hW' := hW
  obtain ⟨p, q, hA0, hV, rfl, hfz, hnd⟩ := hW
  have hA : DataW.TrodAll enc Try.prog W 0 (fun _ => true) true Try.f4.params.toList args.toList ds p := hA0
  rw [Try.params4] at hA hval
  obtain ⟨v0, vs0, d0, ds0, p0, q0, hargs, rfl, rfl, h0, r0⟩ := trodAll_cons hA
  obtain ⟨v1, vs1, d1, ds1, p1, q1, rfl, rfl, rfl, h1, r1⟩ := trodAll_cons r0
  obtain ⟨v2, vs2, d2, ds2, p2, q2, rfl, rfl, rfl, h2, r2⟩ := trodAll_cons r1
  obtain ⟨v3, vs3, d3, ds3, p3, q3, rfl, rfl, rfl, h3, r3⟩ := trodAll_cons r2
  obtain ⟨v4, vs4, d4, ds4, p4, q4, rfl, rfl, rfl, h4, r4⟩ := trodAll_cons r3
  obtain ⟨v5, vs5, d5, ds5, p5, q5, rfl, rfl, rfl, h5, r5⟩ := trodAll_cons r4
  obtain ⟨rfl, rfl, rfl⟩ := trodAll_nil r5
  obtain rfl : args = #[v0, v1, v2, v3, v4, v5] := by cases args; simp_all
  obtain ⟨rfl, rfl⟩ := trodVars_none hV
  simp only [List.append_nil] at hk
  have hbk : Rows.uptoBulkAll [d0, d1, d2, d3, d4, d5] ≤ 1048576 := of_decide_eq_true hk
  simp only [Rows.uptoBulkAll] at hbk
  obtain ⟨a0, rfl, rfl, rfl, w0⟩ := open_int Try.underlying3 (hval 0 3 v0 rfl rfl) h0
  obtain ⟨a1, len1, cap1, rfl⟩ := okWide_slice Try.underlying22 (hval 1 22 v1 rfl rfl)
  have k1 := h1
  have lt1 : ∀ x ∈ p1, x.block < W.heap.size := by obtain ⟨m, hm⟩ := k1; exact DataW.trod_lt m _ _ _ hm
  obtain ⟨fuel1, hf1⟩ := h1
  obtain ⟨l1, s1, dl1⟩ := open_bytes Try.underlying22 Try.underlying5 (by kernel_rfl) hf1
  have b1 := DLen_bulk dl1
  obtain ⟨a2, len2, cap2, rfl⟩ := okWide_slice Try.underlying22 (hval 2 22 v2 rfl rfl)
  have k2 := h2
  have lt2 : ∀ x ∈ p2, x.block < W.heap.size := by obtain ⟨m, hm⟩ := k2; exact DataW.trod_lt m _ _ _ hm
  obtain ⟨fuel2, hf2⟩ := h2
  obtain ⟨l2, s2, dl2⟩ := open_bytes Try.underlying22 Try.underlying5 (by kernel_rfl) hf2
  have b2 := DLen_bulk dl2
  obtain ⟨a3, len3, cap3, rfl⟩ := okWide_slice Try.underlying22 (hval 3 22 v3 rfl rfl)
  have k3 := h3
  have lt3 : ∀ x ∈ p3, x.block < W.heap.size := by obtain ⟨m, hm⟩ := k3; exact DataW.trod_lt m _ _ _ hm
  obtain ⟨fuel3, hf3⟩ := h3
  obtain ⟨l3, s3, dl3⟩ := open_bytes Try.underlying22 Try.underlying5 (by kernel_rfl) hf3
  have b3 := DLen_bulk dl3
  obtain ⟨a4, rfl, rfl, rfl, w4⟩ := open_int Try.underlying5 (hval 4 5 v4 rfl rfl) h4
  have u4 := wf_u8 w4
  obtain ⟨m4, hm4⟩ : ∃ m : Nat, a4 = (m : Int) := ⟨a4.toNat, by omega⟩
  subst hm4
  obtain ⟨a5, rfl, rfl, rfl, w5⟩ := open_int Try.underlying5 (hval 5 5 v5 rfl rfl) h5
  have u5 := wf_u8 w5
  obtain ⟨m5, hm5⟩ : ∃ m : Nat, a5 = (m : Int) := ⟨a5.toNat, by omega⟩
  subst hm5
  simp only [Rows.uptoBulk] at hbk
  clear hA0 hval0
  refine (fnXofSavesReading_walk a0 a1 len1 cap1 l1 a2 len2 cap2 l2 a3 len3 cap3 l3 m4 (by omega) m5 (by omega) W s1 (by omega) s2 (by omega) s3 (by omega)).mono fun e W' ⟨he, hfr⟩ => ?_
  have bel := hfr.below
  subst he
  exact ⟨_, rfl, _, _, _, [], _, [], hW', trodAll_mk1 (shut_bool Try.underlying4 _), (trodAll_cons_mk (shut_int Try.underlying3 w0) (trodAll_cons_mk (Below.trod laidOut (by kernel_rfl) (of_decide_eq_true (by kernel_rfl)) k1 bel lt1) (trodAll_cons_mk (Below.trod laidOut (by kernel_rfl) (of_decide_eq_true (by kernel_rfl)) k2 bel lt2) (trodAll_cons_mk (Below.trod laidOut (by kernel_rfl) (of_decide_eq_true (by kernel_rfl)) k3 bel lt3) (trodAll_cons_mk (shut_int Try.underlying5 w4) (trodAll_cons_mk (shut_int Try.underlying5 w5) trodAll_mk0)))))), rfl, bel.frame _, fun h => by cases h⟩

theorem proved : Rows.FnXofSavesReadingUptoSaid :=
  OpenClaim.holds_of_cond 4 Try.f4 rfl rfl rfl rfl rfl rfl rfl ⟨rfl, rfl, rfl, rfl, rfl⟩ rfl rfl rfl rfl rfl (by kernel_rfl) Try.func4 (by kernel_rfl)
    (of_decide_eq_true (by kernel_rfl)) (by unfold Func.isWrapper; first | (rw [if_pos (by decide +kernel)]; kernel_rfl) | (rw [if_neg (by decide +kernel)]; exact ⟨rfl, rfl⟩))
    (fun os started H enc _ F => lifted os started H enc F)
#print axioms proved
end Go.Proofs.Ytmainjpffaebfaa.rFnXofSavesReading
namespace Go.Proofs.Ytmainjpffaebfaa
theorem fnXofSavesReading_holds : Rows.FnXofSavesReadingUptoSaid := rFnXofSavesReading.proved
end Go.Proofs.Ytmainjpffaebfaa
end
