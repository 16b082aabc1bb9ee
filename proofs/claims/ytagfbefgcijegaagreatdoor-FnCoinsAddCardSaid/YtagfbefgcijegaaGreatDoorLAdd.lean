/-
  The walk of the law FnCoinsAdd: it returns true.
-/
import Derived.Test.YtagfbefgcijegaaGreatDoorLKit
import Derived.Test.YtagfbefgcijegaaGreatDoorTotal
import Derived.Test.YtagfbefgcijegaaGreatDoorApp
namespace Go.Proofs.YtagfbefgcijegaaGreatDoor
open Go Go.RowKit

set_option maxRecDepth 100000 in
set_option maxHeartbeats 4000000 in
theorem lawAdd (A0 : Option Addr) (n0 c0 : Nat) (l0 : List (ByteArray × Int)) (A1 : Option Addr) (n1 c1 : Nat) (l1 : List (ByteArray × Int)) (w : World) (hl0 : l0.length = n0) (hn0 : n0 ≤ 9223372036854775807) (h0 : PlainAt w A0 l0) (hl1 : l1.length = n1) (hn1 : n1 ≤ 9223372036854775807) (h1 : PlainAt w A1 l1) :
    Calls Tryz.prog 3 #[.slice A0 n0 c0, .slice A1 n1 c1] w (RetE (.bool true) w) := by
  have HL0 := Lib.hid hl0; have HN0 := Lib.hid hn0; have HP0 := Lib.hid h0
  have HL1 := Lib.hid hl1; have HN1 := Lib.hid hn1; have HP1 := Lib.hid h1
  obtain ⟨i0, hi, hz0, hz1, hz2⟩ := info_parts infoSum
  clear hl0 hn0 h0 hl1 hn1 h1
  go_enter Tryz.func3, Tryz.ntmps3
  go_wp2_with (fail)
  go_at_call 19
  refine (zFits2 A0 n0 c0 l0 _ HL0.out HN0.out (HP0.out.ext (Ext.refl _))).mono ?_
  rintro e w1 ⟨r, rfl, hf, hE⟩
  have HD1 := Lib.hid hE
  clear hE
  cases r
  · go_wp2_with (fail)
    go_ret
    exact ⟨rfl, (HD1.out)⟩
  have HF0 := Lib.hid (hf rfl); clear hf
  go_wp2_with (fail)
  go_at_call 19
  refine (zFits2 A1 n1 c1 l1 _ HL1.out HN1.out (HP1.out.ext (HD1.out))).mono ?_
  rintro e w2 ⟨r, rfl, hf, hE⟩
  have HD2 := Lib.hid hE
  clear hE
  cases r
  · go_wp2_with (fail)
    go_ret
    exact ⟨rfl, ((HD1.out).trans' HD2.out)⟩
  have HF1 := Lib.hid (hf rfl); clear hf
  go_wp2_with (fail)
  go_at_call 20
  refine (sIsSumList A0 n0 c0 l0 _ HL0.out HF0.out (HP0.out.ext ((HD1.out).trans' HD2.out))).mono ?_
  rintro e w3 ⟨rfl, hE⟩
  have HD3 := Lib.hid hE
  clear hE
  cases hb3 : listB l0
  · go_wp2_with (fail)
    go_ret
    exact ⟨rfl, (((HD1.out).trans' HD2.out).trans' HD3.out)⟩
  have HB0 := Lib.hid hb3; clear hb3
  go_wp2_with (fail)
  have H80 := Lib.hid (show n0 ≤ 8 from by have := listB_len HB0.out; have := HL0.out; omega)
  go_at_call 20
  refine (sIsSumList A1 n1 c1 l1 _ HL1.out HF1.out (HP1.out.ext (((HD1.out).trans' HD2.out).trans' HD3.out))).mono ?_
  rintro e w4 ⟨rfl, hE⟩
  have HD4 := Lib.hid hE
  clear hE
  cases hb4 : listB l1
  · go_wp2_with (fail)
    go_ret
    exact ⟨rfl, ((((HD1.out).trans' HD2.out).trans' HD3.out).trans' HD4.out)⟩
  have HB1 := Lib.hid hb4; clear hb4
  go_wp2_with (fail)
  have H81 := Lib.hid (show n1 ≤ 8 from by have := listB_len HB1.out; have := HL1.out; omega)
  go_at_call 22
  refine (lSumTo A0 n0 c0 l0 _ HL0.out (by have := HL0.out; have := HL1.out; have := H80.out; have := H81.out; omega) (HP0.out.ext ((((HD1.out).trans' HD2.out).trans' HD3.out).trans' HD4.out))).mono ?_
  rintro e w5 ⟨v5, rfl, ho5, hE⟩
  obtain ⟨B5, d5, hv, hp⟩ := pown_len ho5 HL0.out
  subst hv
  have HQ5 := Lib.hid hp; clear hp
  have HD5 := Lib.hid hE
  clear hE ho5
  go_wp2_with (fail)
  go_at_call 22
  refine (lSumTo A1 n1 c1 l1 _ HL1.out (by have := HL0.out; have := HL1.out; have := H80.out; have := H81.out; omega) (HP1.out.ext (((((HD1.out).trans' HD2.out).trans' HD3.out).trans' HD4.out).trans' HD5.out))).mono ?_
  rintro e w6 ⟨v6, rfl, ho6, hE⟩
  obtain ⟨B6, d6, hv, hp⟩ := pown_len ho6 HL1.out
  subst hv
  have HQ6 := Lib.hid hp; clear hp
  have HD6 := Lib.hid hE
  clear hE ho6
  go_wp2_with (fail)
  go_at_call 21
  refine (iAddOf B5 B6 n0 d5 n1 d6 l0 l1 _ HL0.out HL1.out (by have := HL0.out; have := HL1.out; have := H80.out; have := H81.out; omega) (HQ5.out.ext (HD6.out)) HQ6.out (both (fits_size HF0.out) (fits_size HF1.out)) (both (listB_abs HB0.out) (listB_abs HB1.out))).mono ?_
  intro e w7 h
  unfold RetAddOf at h
  by_cases hs : sortedB (l0.map Prod.fst) = true ∧ sortedB (l1.map Prod.fst) = true
  · have HS := Lib.hid hs; clear hs
    rw [if_pos HS.out] at h
    obtain ⟨v7, r7, rfl, ha, ho, hE⟩ := h
    obtain ⟨B7, d7, hv, hp⟩ := pown_len ho rfl
    subst hv
    have HQ7 := Lib.hid hp; clear hp
    have HD7 := Lib.hid hE
    have HA7 := Lib.hid ha
    have HX7 := Lib.hid (show r7.length ≤ n0 + n1 from by have := isAdd_len ha; rw [List.length_append, HL0.out, HL1.out] at this; exact this)
    clear hE ho ha
    go_wp2_with (fail)
    go_at_call 23
    refine (sIsSorted A0 n0 c0 l0 _ HL0.out (by have := HL0.out; have := HL1.out; have := H80.out; have := H81.out; have := HX7.out; omega) (HP0.out.ext (((((((HD1.out).trans' HD2.out).trans' HD3.out).trans' HD4.out).trans' HD5.out).trans' HD6.out).trans' HD7.out))).mono ?_
    rintro e w8 ⟨rfl, hE⟩
    have HD8 := Lib.hid (ext_q hE)
    clear hE
    rw [HS.out.1]
    go_wp2_with (fail)
    go_at_call 23
    refine (sIsSorted A1 n1 c1 l1 _ HL1.out (by have := HL0.out; have := HL1.out; have := H80.out; have := H81.out; have := HX7.out; omega) (HP1.out.ext ((((((((HD1.out).trans' HD2.out).trans' HD3.out).trans' HD4.out).trans' HD5.out).trans' HD6.out).trans' HD7.out).trans' HD8.out))).mono ?_
    rintro e w9 ⟨rfl, hE⟩
    have HD9 := Lib.hid (ext_q hE)
    clear hE
    rw [HS.out.2]
    go_wp2_with (fail)
    go_at_call 26
    refine (lSumFrom B7 r7.length d7 r7 _ rfl (by have := HL0.out; have := HL1.out; have := H80.out; have := H81.out; have := HX7.out; omega) (HQ7.out.ext ((HD8.out).trans' HD9.out))).mono ?_
    rintro e w10 ⟨v10, rfl, ho10, hE⟩
    obtain ⟨B10, d10, hv, hp⟩ := pown_len ho10 rfl
    subst hv
    have HQ10 := Lib.hid hp; clear hp
    have HD10 := Lib.hid hE
    clear hE ho10
    have HL01 := Lib.hid (show (l0 ++ l1).length = (n0 + n1) by simp only [List.length_append]; have := HL0.out; have := HL1.out; omega)
    go_wp2_with (first | (at_builtin; go_loud (refine wpList_append_plain (by rfl) _ _ 22 43 rfl w10.heap.size i0 _ Tryz.underlying22 hi hz0 hz1 hz2 rfl _ l0 rfl HO11_0.out A1 n1 c1 l1 rfl HL1.out ((HP1.out.ext ((((((((((HD1.out).trans' HD2.out).trans' HD3.out).trans' HD4.out).trans' HD5.out).trans' HD6.out).trans' HD7.out).trans' HD8.out).trans' HD9.out).trans' HD10.out)).ext HX11_0.out) (by have := HL0.out; have := HL1.out; have := H80.out; have := H81.out; have := HX7.out; omega) (HX11_0.out).size ?_); intro v11_1 w11_1 ho11_1 hx11_1; have HX11_1 := Lib.hid (hx11_1 w10 HX11_0.out (Nat.le_refl _)); clear hx11_1; have HO11_1 := Lib.hid (show PlainOwn _ _ _ _ (l0 ++ l1) from ho11_1); clear ho11_1; obtain ⟨B11, d11, hv, hp⟩ := pown_len HO11_1.out HL01.out; subst hv; have HQ11 := Lib.hid hp; clear hp; have HD11 := Lib.hid HX11_1.out) | (at_builtin; go_loud (refine wpList_append_plain (by rfl) _ _ 22 43 rfl w10.heap.size i0 _ Tryz.underlying22 hi hz0 hz1 hz2 rfl _ ([] : List (ByteArray × Int)) rfl (PlainOwn.nil _ _ _) A0 n0 c0 l0 rfl HL0.out ((HP0.out.ext ((((((((((HD1.out).trans' HD2.out).trans' HD3.out).trans' HD4.out).trans' HD5.out).trans' HD6.out).trans' HD7.out).trans' HD8.out).trans' HD9.out).trans' HD10.out)).ext (Ext.refl _)) (by rw [List.length_nil]; have := HL0.out; have := HL1.out; have := H80.out; have := H81.out; have := HX7.out; omega) ((Ext.refl _)).size ?_); intro v11_0 w11_0 ho11_0 hx11_0; have HX11_0 := Lib.hid (hx11_0 w10 (Ext.refl _) (Nat.le_refl _)); clear hx11_0; have HO11_0 := Lib.hid (show PlainOwn _ _ _ _ l0 from ho11_0); clear ho11_0))
    go_at_call 27
    refine (sSumTotal B11 (n0 + n1) d11 (l0 ++ l1) _ HL01.out (by have := HL0.out; have := HL1.out; have := H80.out; have := H81.out; have := HX7.out; omega) HQ11.out (both (listB_abs HB0.out) (listB_abs HB1.out))).mono ?_
    rintro e w12 ⟨r12, ⟨v12, rfl, ho12, hE⟩, hr12⟩
    obtain ⟨B12, d12, hv, hp⟩ := pown_len ho12 rfl
    subst hv
    have HQ12 := Lib.hid hp; clear hp
    have HD12 := Lib.hid hE
    have HR12 := Lib.hid hr12
    clear hE ho12 hr12
    obtain rfl : r7 = r12 := isAdd_unique HA7.out HR12.out
    go_wp2_with (fail)
    go_at_call 25
    refine (sSumSame B10 B12 r7.length d10 r7.length d12 r7 r7 _ rfl rfl (by have := HL0.out; have := HL1.out; have := H80.out; have := H81.out; have := HX7.out; omega) (by have := HL0.out; have := HL1.out; have := H80.out; have := H81.out; have := HX7.out; omega) (HQ10.out.ext ((HD11.out).trans' HD12.out)) HQ12.out).mono ?_
    rintro e w13 ⟨rfl, hE⟩
    have HD13 := Lib.hid (ext_q hE)
    clear hE
    rw [decide_eq_true rfl]
    go_wp2_with (fail)
    go_at_call 24
    refine (sumAwake _).mono ?_
    rintro e w14 ⟨rfl, hE⟩
    have HD14 := Lib.hid hE
    clear hE
    go_wp2_with (fail)
    go_ret
    exact ⟨rfl, ((((((((((((((HD1.out).trans' HD2.out).trans' HD3.out).trans' HD4.out).trans' HD5.out).trans' HD6.out).trans' HD7.out).trans' HD8.out).trans' HD9.out).trans' HD10.out).trans' HD11.out).trans' HD12.out).trans' HD13.out).trans' HD14.out)⟩
  · rw [if_neg hs] at h
    have HS := Lib.hid hs; clear hs
    obtain ⟨rfl, hE⟩ := h
    have HD7 := Lib.hid hE
    clear hE
    go_wp2_with (fail)
    go_at_call 23
    refine (sIsSorted A0 n0 c0 l0 _ HL0.out (by have := HL0.out; have := HL1.out; have := H80.out; have := H81.out; omega) (HP0.out.ext (((((((HD1.out).trans' HD2.out).trans' HD3.out).trans' HD4.out).trans' HD5.out).trans' HD6.out).trans' HD7.out))).mono ?_
    rintro e w8 ⟨rfl, hE⟩
    have HD8 := Lib.hid (ext_q hE)
    clear hE
    cases hb : sortedB (l0.map Prod.fst)
    · go_wp2_with (fail)
      go_at_call 24
      refine (sumAwake _).mono ?_
      rintro e w9 ⟨rfl, hE⟩
      have HD9 := Lib.hid hE
      clear hE
      go_wp2_with (fail)
      go_ret
      exact ⟨rfl, (((((((((HD1.out).trans' HD2.out).trans' HD3.out).trans' HD4.out).trans' HD5.out).trans' HD6.out).trans' HD7.out).trans' HD8.out).trans' HD9.out)⟩
    · have HSB := Lib.hid hb; clear hb
      go_wp2_with (fail)
      go_at_call 23
      refine (sIsSorted A1 n1 c1 l1 _ HL1.out (by have := HL0.out; have := HL1.out; have := H80.out; have := H81.out; omega) (HP1.out.ext ((((((((HD1.out).trans' HD2.out).trans' HD3.out).trans' HD4.out).trans' HD5.out).trans' HD6.out).trans' HD7.out).trans' HD8.out))).mono ?_
      rintro e w9 ⟨rfl, hE⟩
      have HD9 := Lib.hid (ext_q hE)
      clear hE
      rw [show sortedB (l1.map Prod.fst) = false by cases h : sortedB (l1.map Prod.fst); rfl; exact absurd ⟨HSB.out, h⟩ HS.out]
      go_wp2_with (fail)
      go_at_call 24
      refine (sumAwake _).mono ?_
      rintro e w10 ⟨rfl, hE⟩
      have HD10 := Lib.hid hE
      clear hE
      go_wp2_with (fail)
      go_ret
      exact ⟨rfl, ((((((((((HD1.out).trans' HD2.out).trans' HD3.out).trans' HD4.out).trans' HD5.out).trans' HD6.out).trans' HD7.out).trans' HD8.out).trans' HD9.out).trans' HD10.out)⟩
end Go.Proofs.YtagfbefgcijegaaGreatDoor
