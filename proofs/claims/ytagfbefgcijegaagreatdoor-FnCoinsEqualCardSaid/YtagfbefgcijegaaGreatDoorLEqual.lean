/-
  The walk of the law FnCoinsEqual: it returns true.
-/
import Derived.Test.YtagfbefgcijegaaGreatDoorLKit
import Derived.Test.YtagfbefgcijegaaGreatDoorOnce
import Derived.Test.YtagfbefgcijegaaGreatDoorEqual
import Derived.Test.YtagfbefgcijegaaGreatDoorSpec3
namespace Go.Proofs.YtagfbefgcijegaaGreatDoor
open Go Go.RowKit

set_option maxRecDepth 100000 in
set_option maxHeartbeats 2000000 in
theorem lawEqual (A0 : Option Addr) (n0 c0 : Nat) (l0 : List (ByteArray × Int)) (A1 : Option Addr) (n1 c1 : Nat) (l1 : List (ByteArray × Int)) (w : World) (hl0 : l0.length = n0) (hn0 : n0 ≤ 9223372036854775807) (h0 : PlainAt w A0 l0) (hl1 : l1.length = n1) (hn1 : n1 ≤ 9223372036854775807) (h1 : PlainAt w A1 l1) :
    Calls Tryz.prog 5 #[.slice A0 n0 c0, .slice A1 n1 c1] w (RetE (.bool true) w) := by
  have HL0 := Lib.hid hl0; have HN0 := Lib.hid hn0; have HP0 := Lib.hid h0
  have HL1 := Lib.hid hl1; have HN1 := Lib.hid hn1; have HP1 := Lib.hid h1
  clear hl0 hn0 h0 hl1 hn1 h1
  go_enter Tryz.func5, Tryz.ntmps5
  go_wp2_with (fail)
  go_at_call 19
  refine (zFits2 A0 n0 c0 l0 _ HL0.out HN0.out (HP0.out.ext (Ext.refl _))).mono ?_
  rintro e w1 ⟨r, rfl, hf, hE⟩
  have HD1 := Lib.hid hE
  clear hE
  cases r
  · go_wp2_with (fail)
    go_ret
    exact ⟨rfl, (HD1.out)⟩
  have HF0 := Lib.hid (hf rfl); clear hf
  go_wp2_with (fail)
  go_at_call 19
  refine (zFits2 A1 n1 c1 l1 _ HL1.out HN1.out (HP1.out.ext (HD1.out))).mono ?_
  rintro e w2 ⟨r, rfl, hf, hE⟩
  have HD2 := Lib.hid hE
  clear hE
  cases r
  · go_wp2_with (fail)
    go_ret
    exact ⟨rfl, ((HD1.out).trans' HD2.out)⟩
  have HF1 := Lib.hid (hf rfl); clear hf
  go_wp2_with (fail)
  go_at_call 20
  refine (sIsSumList A0 n0 c0 l0 _ HL0.out HF0.out (HP0.out.ext ((HD1.out).trans' HD2.out))).mono ?_
  rintro e w3 ⟨rfl, hE⟩
  have HD3 := Lib.hid hE
  clear hE
  cases hb3 : listB l0
  · go_wp2_with (fail)
    go_ret
    exact ⟨rfl, (((HD1.out).trans' HD2.out).trans' HD3.out)⟩
  have HB0 := Lib.hid hb3; clear hb3
  go_wp2_with (fail)
  have H80 := Lib.hid (show n0 ≤ 8 from by have := listB_len HB0.out; have := HL0.out; omega)
  go_at_call 20
  refine (sIsSumList A1 n1 c1 l1 _ HL1.out HF1.out (HP1.out.ext (((HD1.out).trans' HD2.out).trans' HD3.out))).mono ?_
  rintro e w4 ⟨rfl, hE⟩
  have HD4 := Lib.hid hE
  clear hE
  cases hb4 : listB l1
  · go_wp2_with (fail)
    go_ret
    exact ⟨rfl, ((((HD1.out).trans' HD2.out).trans' HD3.out).trans' HD4.out)⟩
  have HB1 := Lib.hid hb4; clear hb4
  go_wp2_with (fail)
  have H81 := Lib.hid (show n1 ≤ 8 from by have := listB_len HB1.out; have := HL1.out; omega)
  go_at_call 29
  refine (sIsSumOnce A0 n0 c0 l0 _ HL0.out (by have := HL0.out; have := HL1.out; have := H80.out; have := H81.out; omega) (HP0.out.ext ((((HD1.out).trans' HD2.out).trans' HD3.out).trans' HD4.out))).mono ?_
  rintro e w5 ⟨rfl, hE⟩
  have HD5 := Lib.hid (ext_q hE)
  clear hE
  cases hb5 : onceB l0
  · go_wp2_with (fail)
    go_ret
    exact ⟨rfl, (((((HD1.out).trans' HD2.out).trans' HD3.out).trans' HD4.out).trans' HD5.out)⟩
  have HO0 := Lib.hid hb5; clear hb5
  go_wp2_with (fail)
  go_at_call 29
  refine (sIsSumOnce A1 n1 c1 l1 _ HL1.out (by have := HL0.out; have := HL1.out; have := H80.out; have := H81.out; omega) (HP1.out.ext (((((HD1.out).trans' HD2.out).trans' HD3.out).trans' HD4.out).trans' HD5.out))).mono ?_
  rintro e w6 ⟨rfl, hE⟩
  have HD6 := Lib.hid (ext_q hE)
  clear hE
  cases hb6 : onceB l1
  · go_wp2_with (fail)
    go_ret
    exact ⟨rfl, ((((((HD1.out).trans' HD2.out).trans' HD3.out).trans' HD4.out).trans' HD5.out).trans' HD6.out)⟩
  have HO1 := Lib.hid hb6; clear hb6
  go_wp2_with (fail)
  go_at_call 22
  refine (lSumTo A0 n0 c0 l0 _ HL0.out (by have := HL0.out; have := HL1.out; have := H80.out; have := H81.out; omega) (HP0.out.ext ((((((HD1.out).trans' HD2.out).trans' HD3.out).trans' HD4.out).trans' HD5.out).trans' HD6.out))).mono ?_
  rintro e w7 ⟨v7, rfl, ho7, hE⟩
  obtain ⟨B7, d7, hv, hp⟩ := pown_len ho7 HL0.out
  subst hv
  have HQ7 := Lib.hid hp; clear hp
  have HD7 := Lib.hid hE
  clear hE ho7
  go_wp2_with (fail)
  go_at_call 22
  refine (lSumTo A1 n1 c1 l1 _ HL1.out (by have := HL0.out; have := HL1.out; have := H80.out; have := H81.out; omega) (HP1.out.ext (((((((HD1.out).trans' HD2.out).trans' HD3.out).trans' HD4.out).trans' HD5.out).trans' HD6.out).trans' HD7.out))).mono ?_
  rintro e w8 ⟨v8, rfl, ho8, hE⟩
  obtain ⟨B8, d8, hv, hp⟩ := pown_len ho8 HL1.out
  subst hv
  have HQ8 := Lib.hid hp; clear hp
  have HD8 := Lib.hid hE
  clear hE ho8
  go_wp2_with (fail)
  go_at_call 30
  refine (iEqualOf B7 B8 n0 d7 n1 d8 l0 l1 _ HL0.out HL1.out (by have := HL0.out; have := HL1.out; have := H80.out; have := H81.out; omega) (by have := HL0.out; have := HL1.out; have := H80.out; have := H81.out; omega) (HQ7.out.ext (HD8.out)) HQ8.out (listB_max HB0.out) (listB_max HB1.out)).mono ?_
  intro e w9 h
  obtain ⟨q, rfl, hq, hE⟩ := equal_fact h HO0.out HO1.out
  have HD9 := Lib.hid hE
  have HW := Lib.hid hq; clear h hE hq
  go_wp2_with (fail)
  go_at_call 31
  refine (sSumSorted A0 n0 c0 l0 _ HL0.out (by have := HL0.out; have := HL1.out; have := H80.out; have := H81.out; omega) (HP0.out.ext (((((((((HD1.out).trans' HD2.out).trans' HD3.out).trans' HD4.out).trans' HD5.out).trans' HD6.out).trans' HD7.out).trans' HD8.out).trans' HD9.out))).mono ?_
  rintro e w10 ⟨r10, ⟨v10, rfl, ho10, hE⟩, hr10⟩
  obtain ⟨B10, d10, hv, hp⟩ := pown_len ho10 rfl
  subst hv
  have HQ10 := Lib.hid hp; clear hp
  have HD10 := Lib.hid hE
  have HR10 := Lib.hid hr10
  clear hE ho10 hr10
  have HX10 := Lib.hid (show r10.length = n0 from HR10.out.1.length_eq.trans HL0.out)
  go_wp2_with (fail)
  go_at_call 31
  refine (sSumSorted A1 n1 c1 l1 _ HL1.out (by have := HL0.out; have := HL1.out; have := H80.out; have := H81.out; have := HX10.out; omega) (HP1.out.ext ((((((((((HD1.out).trans' HD2.out).trans' HD3.out).trans' HD4.out).trans' HD5.out).trans' HD6.out).trans' HD7.out).trans' HD8.out).trans' HD9.out).trans' HD10.out))).mono ?_
  rintro e w11 ⟨r11, ⟨v11, rfl, ho11, hE⟩, hr11⟩
  obtain ⟨B11, d11, hv, hp⟩ := pown_len ho11 rfl
  subst hv
  have HQ11 := Lib.hid hp; clear hp
  have HD11 := Lib.hid hE
  have HR11 := Lib.hid hr11
  clear hE ho11 hr11
  have HX11 := Lib.hid (show r11.length = n1 from HR11.out.1.length_eq.trans HL1.out)
  go_wp2_with (fail)
  go_at_call 25
  refine (sSumSame B10 B11 r10.length d10 r11.length d11 r10 r11 _ rfl rfl (by have := HL0.out; have := HL1.out; have := H80.out; have := H81.out; have := HX10.out; have := HX11.out; omega) (by have := HL0.out; have := HL1.out; have := H80.out; have := H81.out; have := HX10.out; have := HX11.out; omega) (HQ10.out.ext (HD11.out)) HQ11.out).mono ?_
  rintro e w12 ⟨rfl, hE⟩
  have HD12 := Lib.hid (ext_q hE)
  clear hE
  rw [HW.out _ _ HR10.out.1 HR10.out.2 HR11.out.1 HR11.out.2]
  clear HW
  cases q
  · go_wp2_with (fail)
    go_at_call 24
    refine (sumAwake _).mono ?_
    rintro e w13 ⟨rfl, hE⟩
    have HD13 := Lib.hid hE
    clear hE
    go_wp2_with (fail)
    go_ret
    exact ⟨rfl, (((((((((((((HD1.out).trans' HD2.out).trans' HD3.out).trans' HD4.out).trans' HD5.out).trans' HD6.out).trans' HD7.out).trans' HD8.out).trans' HD9.out).trans' HD10.out).trans' HD11.out).trans' HD12.out).trans' HD13.out)⟩
  · go_wp2_with (fail)
    go_at_call 24
    refine (sumAwake _).mono ?_
    rintro e w13 ⟨rfl, hE⟩
    have HD13 := Lib.hid hE
    clear hE
    go_wp2_with (fail)
    go_ret
    exact ⟨rfl, (((((((((((((HD1.out).trans' HD2.out).trans' HD3.out).trans' HD4.out).trans' HD5.out).trans' HD6.out).trans' HD7.out).trans' HD8.out).trans' HD9.out).trans' HD10.out).trans' HD11.out).trans' HD12.out).trans' HD13.out)⟩
end Go.Proofs.YtagfbefgcijegaaGreatDoor
