/-
  The walk of the law FnCoinsSort: it returns true.
-/
import Derived.Test.YtagfbefgcijegaaDoorLKit
import Derived.Test.YtagfbefgcijegaaDoorOnce
import Derived.Test.YtagfbefgcijegaaDoorSortOf
import Derived.Test.YtagfbefgcijegaaDoorSpec3
namespace Go.Proofs.YtagfbefgcijegaaDoor
open Go Go.RowKit

set_option maxRecDepth 100000 in
set_option maxHeartbeats 2000000 in
theorem lawSort (A0 : Option Addr) (n0 c0 : Nat) (l0 : List (ByteArray × Int)) (w : World) (hl0 : l0.length = n0) (hn0 : n0 ≤ 9223372036854775807) (h0 : PlainAt w A0 l0) :
    Calls Tryd.prog 4 #[.slice A0 n0 c0] w (RetE (.bool true) w) := by
  have HL0 := Lib.hid hl0; have HN0 := Lib.hid hn0; have HP0 := Lib.hid h0
  clear hl0 hn0 h0
  go_enter Tryd.func4, Tryd.ntmps4
  go_wp2_with (fail)
  go_at_call 8
  refine (zFits2 A0 n0 c0 l0 _ HL0.out HN0.out (HP0.out.ext (Ext.refl _))).mono ?_
  rintro e w1 ⟨r, rfl, hf, hE⟩
  have HD1 := Lib.hid hE
  clear hE
  cases r
  · go_wp2_with (fail)
    go_ret
    exact ⟨rfl, (HD1.out)⟩
  have HF0 := Lib.hid (hf rfl); clear hf
  go_wp2_with (fail)
  go_at_call 9
  refine (sIsSumList A0 n0 c0 l0 _ HL0.out HF0.out (HP0.out.ext (HD1.out))).mono ?_
  rintro e w2 ⟨rfl, hE⟩
  have HD2 := Lib.hid hE
  clear hE
  cases hb2 : listB l0
  · go_wp2_with (fail)
    go_ret
    exact ⟨rfl, ((HD1.out).trans' HD2.out)⟩
  have HB0 := Lib.hid hb2; clear hb2
  go_wp2_with (fail)
  have H80 := Lib.hid (show n0 ≤ 8 from by have := listB_len HB0.out; have := HL0.out; omega)
  go_at_call 10
  refine (sIsSumOnce A0 n0 c0 l0 _ HL0.out (by have := HL0.out; have := H80.out; omega) (HP0.out.ext ((HD1.out).trans' HD2.out))).mono ?_
  rintro e w3 ⟨rfl, hE⟩
  have HD3 := Lib.hid (ext_q hE)
  clear hE
  cases hb3 : onceB l0
  · go_wp2_with (fail)
    go_ret
    exact ⟨rfl, (((HD1.out).trans' HD2.out).trans' HD3.out)⟩
  have HO0 := Lib.hid hb3; clear hb3
  go_wp2_with (fail)
  go_at_call 14
  refine (lSumTo A0 n0 c0 l0 _ HL0.out (by have := HL0.out; have := H80.out; omega) (HP0.out.ext (((HD1.out).trans' HD2.out).trans' HD3.out))).mono ?_
  rintro e w4 ⟨v4, rfl, ho4, hE⟩
  obtain ⟨B4, d4, hv, hp⟩ := pown_len ho4 HL0.out
  subst hv
  have HQ4 := Lib.hid hp; clear hp
  have HD4 := Lib.hid hE
  clear hE ho4
  go_wp2_with (fail)
  go_at_call 13
  refine (iSortOf B4 n0 d4 l0 _ HL0.out (by have := HL0.out; have := H80.out; omega) HQ4.out (listB_max HB0.out)).mono ?_
  rintro e w5 ⟨r5, ⟨v5, rfl, ho5, hE⟩, hr5⟩
  obtain ⟨B5, d5, hv, hp⟩ := pown_len ho5 rfl
  subst hv
  have HQ5 := Lib.hid hp; clear hp
  have HD5 := Lib.hid hE
  have HR5 := Lib.hid hr5
  clear hE ho5 hr5
  have HX5 := Lib.hid (show r5.length = n0 from HR5.out.1.length_eq.trans HL0.out)
  go_wp2_with (fail)
  go_at_call 12
  refine (lSumFrom B5 r5.length d5 r5 _ rfl (by have := HL0.out; have := H80.out; have := HX5.out; omega) HQ5.out).mono ?_
  rintro e w6 ⟨v6, rfl, ho6, hE⟩
  obtain ⟨B6, d6, hv, hp⟩ := pown_len ho6 rfl
  subst hv
  have HQ6 := Lib.hid hp; clear hp
  have HD6 := Lib.hid hE
  clear hE ho6
  go_wp2_with (fail)
  go_at_call 15
  refine (sSumSorted A0 n0 c0 l0 _ HL0.out (by have := HL0.out; have := H80.out; have := HX5.out; omega) (HP0.out.ext ((((((HD1.out).trans' HD2.out).trans' HD3.out).trans' HD4.out).trans' HD5.out).trans' HD6.out))).mono ?_
  rintro e w7 ⟨r7, ⟨v7, rfl, ho7, hE⟩, hr7⟩
  obtain ⟨B7, d7, hv, hp⟩ := pown_len ho7 rfl
  subst hv
  have HQ7 := Lib.hid hp; clear hp
  have HD7 := Lib.hid hE
  have HR7 := Lib.hid hr7
  clear hE ho7 hr7
  go_wp2_with (fail)
  obtain rfl : r5 = r7 := sorted_same HR5.out.1 HR5.out.2 HR7.out.1 HR7.out.2 HO0.out
  go_at_call 11
  refine (sSumSame B6 B7 r5.length d6 r5.length d7 r5 r5 _ rfl rfl (by have := HL0.out; have := H80.out; have := HX5.out; omega) (by have := HL0.out; have := H80.out; have := HX5.out; omega) (HQ6.out.ext (HD7.out)) HQ7.out).mono ?_
  rintro e w8 ⟨rfl, hE⟩
  have HD8 := Lib.hid (ext_q hE)
  clear hE
  rw [decide_eq_true rfl]
  go_wp2_with (fail)
  go_at_call 7
  refine (sumAwake _).mono ?_
  rintro e w9 ⟨rfl, hE⟩
  have HD9 := Lib.hid hE
  clear hE
  go_wp2_with (fail)
  go_ret
  exact ⟨rfl, (((((((((HD1.out).trans' HD2.out).trans' HD3.out).trans' HD4.out).trans' HD5.out).trans' HD6.out).trans' HD7.out).trans' HD8.out).trans' HD9.out)⟩
end Go.Proofs.YtagfbefgcijegaaDoor
