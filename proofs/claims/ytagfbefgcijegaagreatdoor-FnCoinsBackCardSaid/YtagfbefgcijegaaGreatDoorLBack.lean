/-
  The walk of the law FnCoinsBack: it returns true.
-/
import Derived.Test.YtagfbefgcijegaaGreatDoorGE
import Derived.Test.YtagfbefgcijegaaGreatDoorGH
namespace Go.Proofs.YtagfbefgcijegaaGreatDoor
open Go Go.RowKit

set_option maxRecDepth 100000 in
set_option maxHeartbeats 4000000 in
theorem lawBack (A0 : Option Addr) (n0 c0 : Nat) (l0 : List (ByteArray × Int)) (A1 : Option Addr) (n1 c1 : Nat) (l1 : List (ByteArray × Int)) (w : World) (hl0 : l0.length = n0) (hn0 : n0 ≤ 9223372036854775807) (h0 : PlainAt w A0 l0) (hl1 : l1.length = n1) (hn1 : n1 ≤ 9223372036854775807) (h1 : PlainAt w A1 l1) :
    Calls Tryz.prog 13 #[.slice A0 n0 c0, .slice A1 n1 c1] w (RetE (.bool true) w) := by
  have HL0 := Lib.hid hl0; have HN0 := Lib.hid hn0; have HP0 := Lib.hid h0
  have HL1 := Lib.hid hl1; have HN1 := Lib.hid hn1; have HP1 := Lib.hid h1
  clear hl0 hn0 h0 hl1 hn1 h1
  go_enter Tryz.func13, Tryz.ntmps13
  go_wp2_with (fail)
  go_at_call 19
  refine (zFits2 A0 n0 c0 l0 _ HL0.out HN0.out (HP0.out.ext (Ext.refl _))).mono ?_
  rintro e w1 ⟨r, rfl, hf, hE⟩
  have HD1 := Lib.hid hE
  clear hE
  cases r
  · go_wp2_with (fail)
    go_ret
    exact ⟨rfl, (HD1.out)⟩
  have HF0 := Lib.hid (hf rfl); clear hf
  go_wp2_with (fail)
  go_at_call 19
  refine (zFits2 A1 n1 c1 l1 _ HL1.out HN1.out (HP1.out.ext (HD1.out))).mono ?_
  rintro e w2 ⟨r, rfl, hf, hE⟩
  have HD2 := Lib.hid hE
  clear hE
  cases r
  · go_wp2_with (fail)
    go_ret
    exact ⟨rfl, ((HD1.out).trans' HD2.out)⟩
  have HF1 := Lib.hid (hf rfl); clear hf
  go_wp2_with (fail)
  go_at_call 28
  refine (sIsSumSet A0 n0 c0 l0 _ HL0.out HF0.out (HP0.out.ext ((HD1.out).trans' HD2.out))).mono ?_
  rintro e w3 ⟨rfl, hE⟩
  have HD3 := Lib.hid hE
  clear hE
  cases hb3 : setB l0
  · go_wp2_with (fail)
    go_ret
    exact ⟨rfl, (((HD1.out).trans' HD2.out).trans' HD3.out)⟩
  have HS0 := Lib.hid hb3; clear hb3
  go_wp2_with (fail)
  have HB0 := Lib.hid (setB_list HS0.out)
  have H80 := Lib.hid (show n0 ≤ 8 from by have := listB_len HB0.out; have := HL0.out; omega)
  go_at_call 28
  refine (sIsSumSet A1 n1 c1 l1 _ HL1.out HF1.out (HP1.out.ext (((HD1.out).trans' HD2.out).trans' HD3.out))).mono ?_
  rintro e w4 ⟨rfl, hE⟩
  have HD4 := Lib.hid hE
  clear hE
  cases hb4 : setB l1
  · go_wp2_with (fail)
    go_ret
    exact ⟨rfl, ((((HD1.out).trans' HD2.out).trans' HD3.out).trans' HD4.out)⟩
  have HS1 := Lib.hid hb4; clear hb4
  go_wp2_with (fail)
  have HB1 := Lib.hid (setB_list HS1.out)
  have H81 := Lib.hid (show n1 ≤ 8 from by have := listB_len HB1.out; have := HL1.out; omega)
  go_at_call 22
  refine (lSumTo A0 n0 c0 l0 _ HL0.out (by have := HL0.out; have := HL1.out; have := H80.out; have := H81.out; omega) (HP0.out.ext ((((HD1.out).trans' HD2.out).trans' HD3.out).trans' HD4.out))).mono ?_
  rintro e w5 ⟨v5, rfl, ho5, hE⟩
  obtain ⟨B5, d5, hv, hp⟩ := pown_len ho5 HL0.out
  subst hv
  have HQ5 := Lib.hid hp; clear hp
  have HD5 := Lib.hid hE
  clear hE ho5
  go_wp2_with (fail)
  go_at_call 22
  refine (lSumTo A1 n1 c1 l1 _ HL1.out (by have := HL0.out; have := HL1.out; have := H80.out; have := H81.out; omega) (HP1.out.ext (((((HD1.out).trans' HD2.out).trans' HD3.out).trans' HD4.out).trans' HD5.out))).mono ?_
  rintro e w6 ⟨v6, rfl, ho6, hE⟩
  obtain ⟨B6, d6, hv, hp⟩ := pown_len ho6 HL1.out
  subst hv
  have HQ6 := Lib.hid hp; clear hp
  have HD6 := Lib.hid hE
  clear hE ho6
  go_wp2_with (fail)
  go_at_call 21
  refine (iAddOf B5 B6 n0 d5 n1 d6 l0 l1 _ HL0.out HL1.out (by have := HL0.out; have := HL1.out; have := H80.out; have := H81.out; omega) (HQ5.out.ext (HD6.out)) HQ6.out (both (fits_size HF0.out) (fits_size HF1.out)) (both (listB_abs HB0.out) (listB_abs HB1.out))).mono ?_
  intro e w7 h
  unfold RetAddOf at h
  rw [if_pos ⟨setB_sorted HS0.out, setB_sorted HS1.out⟩] at h
  obtain ⟨v7, r7, rfl, ha, ho, hE⟩ := h
  obtain ⟨B7, d7, hv, hp⟩ := pown_len ho rfl
  subst hv
  have HQ7 := Lib.hid hp; clear hp
  have HD7 := Lib.hid hE
  have HA7 := Lib.hid ha
  have HX7 := Lib.hid (show r7.length ≤ n0 + n1 from by have := isAdd_len ha; rw [List.length_append, HL0.out, HL1.out] at this; exact this)
  clear hE ho ha
  go_wp2_with (fail)
  have HK7 := Lib.hid (add_ok HA7.out (listB_len HB0.out) (listB_len HB1.out) (listB_mem HB0.out) (listB_mem HB1.out) (fits_size HF0.out) (fits_size HF1.out))
  go_at_call 22
  refine (lSumTo A1 n1 c1 l1 _ HL1.out (by have := HL0.out; have := HL1.out; have := H80.out; have := H81.out; have := HX7.out; omega) (HP1.out.ext (((((((HD1.out).trans' HD2.out).trans' HD3.out).trans' HD4.out).trans' HD5.out).trans' HD6.out).trans' HD7.out))).mono ?_
  rintro e w8 ⟨v8, rfl, ho8, hE⟩
  obtain ⟨B8, d8, hv, hp⟩ := pown_len ho8 HL1.out
  subst hv
  have HQ8 := Lib.hid hp; clear hp
  have HD8 := Lib.hid hE
  clear hE ho8
  go_wp2_with (fail)
  go_at_call 55
  refine (iSubOf B7 B8 r7.length d7 n1 d8 r7 l1 _ rfl HL1.out (by have := HL0.out; have := HL1.out; have := H80.out; have := H81.out; have := HX7.out; omega) (by have := HL0.out; have := HL1.out; have := H80.out; have := H81.out; have := HX7.out; omega) (HQ7.out.ext (HD8.out)) HQ8.out (both HK7.out.2.1 (fits_size HF1.out)) (both HK7.out.1 (listB_abs HB1.out)) HK7.out.2.2 (setB_is HS1.out)).mono ?_
  intro e w9 h
  obtain ⟨v9, rfl, ho9, hE⟩ := sub_is h (back_sums HA7.out (setB_sums HS0.out)) (setB_pos HS0.out)
  have HD9 := Lib.hid hE
  obtain ⟨B9, d9, hv, hp⟩ := pown_len ho9 HL0.out
  subst hv
  have HQ9 := Lib.hid hp; clear hp
  clear hE ho9 h
  go_wp2_with (fail)
  go_at_call 22
  refine (lSumTo A0 n0 c0 l0 _ HL0.out (by have := HL0.out; have := HL1.out; have := H80.out; have := H81.out; have := HX7.out; omega) (HP0.out.ext (((((((((HD1.out).trans' HD2.out).trans' HD3.out).trans' HD4.out).trans' HD5.out).trans' HD6.out).trans' HD7.out).trans' HD8.out).trans' HD9.out))).mono ?_
  rintro e w10 ⟨v10, rfl, ho10, hE⟩
  obtain ⟨B10, d10, hv, hp⟩ := pown_len ho10 HL0.out
  subst hv
  have HQ10 := Lib.hid hp; clear hp
  have HD10 := Lib.hid hE
  clear hE ho10
  go_wp2_with (fail)
  go_at_call 22
  refine (lSumTo A0 n0 c0 l0 _ HL0.out (by have := HL0.out; have := HL1.out; have := H80.out; have := H81.out; have := HX7.out; omega) (HP0.out.ext ((((((((((HD1.out).trans' HD2.out).trans' HD3.out).trans' HD4.out).trans' HD5.out).trans' HD6.out).trans' HD7.out).trans' HD8.out).trans' HD9.out).trans' HD10.out))).mono ?_
  rintro e w11 ⟨v11, rfl, ho11, hE⟩
  obtain ⟨B11, d11, hv, hp⟩ := pown_len ho11 HL0.out
  subst hv
  have HQ11 := Lib.hid hp; clear hp
  have HD11 := Lib.hid hE
  clear hE ho11
  go_wp2_with (fail)
  go_at_call 55
  refine (iSubOf B10 B11 n0 d10 n0 d11 l0 l0 _ HL0.out HL0.out (by have := HL0.out; have := HL1.out; have := H80.out; have := H81.out; have := HX7.out; omega) (by have := HL0.out; have := HL1.out; have := H80.out; have := H81.out; have := HX7.out; omega) (HQ10.out.ext (HD11.out)) HQ11.out (both (fits_size HF0.out) (fits_size HF0.out)) (both (listB_abs HB0.out) (listB_abs HB0.out)) (setB_sorted HS0.out) (setB_is HS0.out)).mono ?_
  intro e w12 h
  obtain ⟨v12, rfl, ho12, hE⟩ := sub_is h (self_sums l0) (fun x hx => by cases hx)
  have HD12 := Lib.hid hE
  obtain ⟨B12, d12, hv, hp⟩ := pown_len ho12 (show ([] : List (ByteArray × Int)).length = 0 from rfl)
  subst hv
  have HQ12 := Lib.hid hp; clear hp
  clear hE ho12 h
  go_wp2_with (fail)
  go_at_call 26
  refine (lSumFrom B9 n0 d9 l0 _ HL0.out (by have := HL0.out; have := HL1.out; have := H80.out; have := H81.out; have := HX7.out; omega) (HQ9.out.ext (((HD10.out).trans' HD11.out).trans' HD12.out))).mono ?_
  rintro e w13 ⟨v13, rfl, ho13, hE⟩
  obtain ⟨B13, d13, hv, hp⟩ := pown_len ho13 HL0.out
  subst hv
  have HQ13 := Lib.hid hp; clear hp
  have HD13 := Lib.hid hE
  clear hE ho13
  go_wp2_with (fail)
  go_at_call 25
  refine (sSumSame B13 A0 n0 d13 n0 c0 l0 l0 _ HL0.out HL0.out (by have := HL0.out; have := HL1.out; have := H80.out; have := H81.out; have := HX7.out; omega) (by have := HL0.out; have := HL1.out; have := H80.out; have := H81.out; have := HX7.out; omega) HQ13.out (HP0.out.ext (((((((((((((HD1.out).trans' HD2.out).trans' HD3.out).trans' HD4.out).trans' HD5.out).trans' HD6.out).trans' HD7.out).trans' HD8.out).trans' HD9.out).trans' HD10.out).trans' HD11.out).trans' HD12.out).trans' HD13.out))).mono ?_
  rintro e w14 ⟨rfl, hE⟩
  have HD14 := Lib.hid (ext_q hE)
  clear hE
  rw [decide_eq_true rfl]
  go_wp2_with (fail)
  go_at_call 52
  refine (iCoinsErr B7 r7.length d7 r7 _ rfl (by have := HL0.out; have := HL1.out; have := H80.out; have := H81.out; have := HX7.out; omega) (HQ7.out.ext (((((((HD8.out).trans' HD9.out).trans' HD10.out).trans' HD11.out).trans' HD12.out).trans' HD13.out).trans' HD14.out)) (add_max HA7.out (by simp only [List.length_append, List.length_nil]; have := HL0.out; have := HL1.out; have := H80.out; have := H81.out; have := HX7.out; omega) (both (listB_abs HB0.out) (listB_abs HB1.out))) HK7.out.2.1).mono ?_
  intro e w15 h
  obtain ⟨rfl, hE⟩ := words_set h (isB_add HA7.out (both (setB_pos HS0.out) (setB_pos HS1.out)) (both (fun x hx => (listB_mem HB0.out x hx).1) (fun x hx => (listB_mem HB1.out x hx).1)))
  have HD15 := Lib.hid hE
  clear hE h
  go_wp2_with (fail)
  go_at_call 24
  refine (sumAwake _).mono ?_
  rintro e w16 ⟨rfl, hE⟩
  have HD16 := Lib.hid hE
  clear hE
  go_wp2_with (fail)
  go_ret
  exact ⟨rfl, ((((((((((((((((HD1.out).trans' HD2.out).trans' HD3.out).trans' HD4.out).trans' HD5.out).trans' HD6.out).trans' HD7.out).trans' HD8.out).trans' HD9.out).trans' HD10.out).trans' HD11.out).trans' HD12.out).trans' HD13.out).trans' HD14.out).trans' HD15.out).trans' HD16.out)⟩
end Go.Proofs.YtagfbefgcijegaaGreatDoor
