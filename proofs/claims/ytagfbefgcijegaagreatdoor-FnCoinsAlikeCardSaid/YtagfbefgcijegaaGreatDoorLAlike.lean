/-
  The walk of the law FnCoinsAlike: it returns true.
-/
import Derived.Test.YtagfbefgcijegaaGreatDoorLKit
import Derived.Test.YtagfbefgcijegaaGreatDoorTotal
import Derived.Test.YtagfbefgcijegaaGreatDoorApp
import Derived.Test.YtagfbefgcijegaaGreatDoorSet
namespace Go.Proofs.YtagfbefgcijegaaGreatDoor
open Go Go.RowKit

set_option maxRecDepth 100000 in
set_option maxHeartbeats 4000000 in
theorem lawAlike (A0 : Option Addr) (n0 c0 : Nat) (l0 : List (ByteArray × Int)) (A1 : Option Addr) (n1 c1 : Nat) (l1 : List (ByteArray × Int)) (A2 : Option Addr) (n2 c2 : Nat) (l2 : List (ByteArray × Int)) (w : World) (hl0 : l0.length = n0) (hn0 : n0 ≤ 9223372036854775807) (h0 : PlainAt w A0 l0) (hl1 : l1.length = n1) (hn1 : n1 ≤ 9223372036854775807) (h1 : PlainAt w A1 l1) (hl2 : l2.length = n2) (hn2 : n2 ≤ 9223372036854775807) (h2 : PlainAt w A2 l2) :
    Calls Tryz.prog 4 #[.slice A0 n0 c0, .slice A1 n1 c1, .slice A2 n2 c2] w (RetE (.bool true) w) := by
  have HL0 := Lib.hid hl0; have HN0 := Lib.hid hn0; have HP0 := Lib.hid h0
  have HL1 := Lib.hid hl1; have HN1 := Lib.hid hn1; have HP1 := Lib.hid h1
  have HL2 := Lib.hid hl2; have HN2 := Lib.hid hn2; have HP2 := Lib.hid h2
  obtain ⟨i0, hi, hz0, hz1, hz2⟩ := info_parts infoSum
  clear hl0 hn0 h0 hl1 hn1 h1 hl2 hn2 h2
  go_enter Tryz.func4, Tryz.ntmps4
  go_wp2_with (fail)
  go_at_call 19
  refine (zFits2 A0 n0 c0 l0 _ HL0.out HN0.out (HP0.out.ext (Ext.refl _))).mono ?_
  rintro e w1 ⟨r, rfl, hf, hE⟩
  have HD1 := Lib.hid hE
  clear hE
  cases r
  · go_wp2_with (fail)
    go_ret
    exact ⟨rfl, (HD1.out)⟩
  have HF0 := Lib.hid (hf rfl); clear hf
  go_wp2_with (fail)
  go_at_call 19
  refine (zFits2 A1 n1 c1 l1 _ HL1.out HN1.out (HP1.out.ext (HD1.out))).mono ?_
  rintro e w2 ⟨r, rfl, hf, hE⟩
  have HD2 := Lib.hid hE
  clear hE
  cases r
  · go_wp2_with (fail)
    go_ret
    exact ⟨rfl, ((HD1.out).trans' HD2.out)⟩
  have HF1 := Lib.hid (hf rfl); clear hf
  go_wp2_with (fail)
  go_at_call 19
  refine (zFits2 A2 n2 c2 l2 _ HL2.out HN2.out (HP2.out.ext ((HD1.out).trans' HD2.out))).mono ?_
  rintro e w3 ⟨r, rfl, hf, hE⟩
  have HD3 := Lib.hid hE
  clear hE
  cases r
  · go_wp2_with (fail)
    go_ret
    exact ⟨rfl, (((HD1.out).trans' HD2.out).trans' HD3.out)⟩
  have HF2 := Lib.hid (hf rfl); clear hf
  go_wp2_with (fail)
  go_at_call 28
  refine (sIsSumSet A0 n0 c0 l0 _ HL0.out HF0.out (HP0.out.ext (((HD1.out).trans' HD2.out).trans' HD3.out))).mono ?_
  rintro e w4 ⟨rfl, hE⟩
  have HD4 := Lib.hid hE
  clear hE
  cases hb4 : setB l0
  · go_wp2_with (fail)
    go_ret
    exact ⟨rfl, ((((HD1.out).trans' HD2.out).trans' HD3.out).trans' HD4.out)⟩
  have HS0 := Lib.hid hb4; clear hb4
  go_wp2_with (fail)
  have HB0 := Lib.hid (setB_list HS0.out)
  have H80 := Lib.hid (show n0 ≤ 8 from by have := listB_len HB0.out; have := HL0.out; omega)
  go_at_call 28
  refine (sIsSumSet A1 n1 c1 l1 _ HL1.out HF1.out (HP1.out.ext ((((HD1.out).trans' HD2.out).trans' HD3.out).trans' HD4.out))).mono ?_
  rintro e w5 ⟨rfl, hE⟩
  have HD5 := Lib.hid hE
  clear hE
  cases hb5 : setB l1
  · go_wp2_with (fail)
    go_ret
    exact ⟨rfl, (((((HD1.out).trans' HD2.out).trans' HD3.out).trans' HD4.out).trans' HD5.out)⟩
  have HS1 := Lib.hid hb5; clear hb5
  go_wp2_with (fail)
  have HB1 := Lib.hid (setB_list HS1.out)
  have H81 := Lib.hid (show n1 ≤ 8 from by have := listB_len HB1.out; have := HL1.out; omega)
  go_at_call 28
  refine (sIsSumSet A2 n2 c2 l2 _ HL2.out HF2.out (HP2.out.ext (((((HD1.out).trans' HD2.out).trans' HD3.out).trans' HD4.out).trans' HD5.out))).mono ?_
  rintro e w6 ⟨rfl, hE⟩
  have HD6 := Lib.hid hE
  clear hE
  cases hb6 : setB l2
  · go_wp2_with (fail)
    go_ret
    exact ⟨rfl, ((((((HD1.out).trans' HD2.out).trans' HD3.out).trans' HD4.out).trans' HD5.out).trans' HD6.out)⟩
  have HS2 := Lib.hid hb6; clear hb6
  go_wp2_with (fail)
  have HB2 := Lib.hid (setB_list HS2.out)
  have H82 := Lib.hid (show n2 ≤ 8 from by have := listB_len HB2.out; have := HL2.out; omega)
  go_at_call 22
  refine (lSumTo A0 n0 c0 l0 _ HL0.out (by have := HL0.out; have := HL1.out; have := HL2.out; have := H80.out; have := H81.out; have := H82.out; omega) (HP0.out.ext ((((((HD1.out).trans' HD2.out).trans' HD3.out).trans' HD4.out).trans' HD5.out).trans' HD6.out))).mono ?_
  rintro e w7 ⟨v7, rfl, ho7, hE⟩
  obtain ⟨B7, d7, hv, hp⟩ := pown_len ho7 HL0.out
  subst hv
  have HQ7 := Lib.hid hp; clear hp
  have HD7 := Lib.hid hE
  clear hE ho7
  go_wp2_with (fail)
  go_at_call 22
  refine (lSumTo A1 n1 c1 l1 _ HL1.out (by have := HL0.out; have := HL1.out; have := HL2.out; have := H80.out; have := H81.out; have := H82.out; omega) (HP1.out.ext (((((((HD1.out).trans' HD2.out).trans' HD3.out).trans' HD4.out).trans' HD5.out).trans' HD6.out).trans' HD7.out))).mono ?_
  rintro e w8 ⟨v8, rfl, ho8, hE⟩
  obtain ⟨B8, d8, hv, hp⟩ := pown_len ho8 HL1.out
  subst hv
  have HQ8 := Lib.hid hp; clear hp
  have HD8 := Lib.hid hE
  clear hE ho8
  go_wp2_with (fail)
  go_at_call 21
  refine (iAddOf B7 B8 n0 d7 n1 d8 l0 l1 _ HL0.out HL1.out (by have := HL0.out; have := HL1.out; have := HL2.out; have := H80.out; have := H81.out; have := H82.out; omega) (HQ7.out.ext (HD8.out)) HQ8.out (both (fits_size HF0.out) (fits_size HF1.out)) (both (listB_abs HB0.out) (listB_abs HB1.out))).mono ?_
  intro e w9 h
  unfold RetAddOf at h
  rw [if_pos ⟨setB_sorted HS0.out, setB_sorted HS1.out⟩] at h
  obtain ⟨v9, r9, rfl, ha, ho, hE⟩ := h
  obtain ⟨B9, d9, hv, hp⟩ := pown_len ho rfl
  subst hv
  have HQ9 := Lib.hid hp; clear hp
  have HD9 := Lib.hid hE
  have HA9 := Lib.hid ha
  have HX9 := Lib.hid (show r9.length ≤ n0 + n1 from by have := isAdd_len ha; rw [List.length_append, HL0.out, HL1.out] at this; exact this)
  clear hE ho ha
  go_wp2_with (fail)
  have HK9 := Lib.hid (add_ok HA9.out (listB_len HB0.out) (listB_len HB1.out) (listB_mem HB0.out) (listB_mem HB1.out) (fits_size HF0.out) (fits_size HF1.out))
  go_at_call 22
  refine (lSumTo A1 n1 c1 l1 _ HL1.out (by have := HL0.out; have := HL1.out; have := HL2.out; have := H80.out; have := H81.out; have := H82.out; have := HX9.out; omega) (HP1.out.ext (((((((((HD1.out).trans' HD2.out).trans' HD3.out).trans' HD4.out).trans' HD5.out).trans' HD6.out).trans' HD7.out).trans' HD8.out).trans' HD9.out))).mono ?_
  rintro e w10 ⟨v10, rfl, ho10, hE⟩
  obtain ⟨B10, d10, hv, hp⟩ := pown_len ho10 HL1.out
  subst hv
  have HQ10 := Lib.hid hp; clear hp
  have HD10 := Lib.hid hE
  clear hE ho10
  go_wp2_with (fail)
  go_at_call 22
  refine (lSumTo A0 n0 c0 l0 _ HL0.out (by have := HL0.out; have := HL1.out; have := HL2.out; have := H80.out; have := H81.out; have := H82.out; have := HX9.out; omega) (HP0.out.ext ((((((((((HD1.out).trans' HD2.out).trans' HD3.out).trans' HD4.out).trans' HD5.out).trans' HD6.out).trans' HD7.out).trans' HD8.out).trans' HD9.out).trans' HD10.out))).mono ?_
  rintro e w11 ⟨v11, rfl, ho11, hE⟩
  obtain ⟨B11, d11, hv, hp⟩ := pown_len ho11 HL0.out
  subst hv
  have HQ11 := Lib.hid hp; clear hp
  have HD11 := Lib.hid hE
  clear hE ho11
  go_wp2_with (fail)
  go_at_call 21
  refine (iAddOf B10 B11 n1 d10 n0 d11 l1 l0 _ HL1.out HL0.out (by have := HL0.out; have := HL1.out; have := HL2.out; have := H80.out; have := H81.out; have := H82.out; have := HX9.out; omega) (HQ10.out.ext (HD11.out)) HQ11.out (both (fits_size HF1.out) (fits_size HF0.out)) (both (listB_abs HB1.out) (listB_abs HB0.out))).mono ?_
  intro e w12 h
  unfold RetAddOf at h
  rw [if_pos ⟨setB_sorted HS1.out, setB_sorted HS0.out⟩] at h
  obtain ⟨v12, r12, rfl, ha, ho, hE⟩ := h
  obtain ⟨B12, d12, hv, hp⟩ := pown_len ho rfl
  subst hv
  have HQ12 := Lib.hid hp; clear hp
  have HD12 := Lib.hid hE
  have HA12 := Lib.hid ha
  have HX12 := Lib.hid (show r12.length ≤ n1 + n0 from by have := isAdd_len ha; rw [List.length_append, HL1.out, HL0.out] at this; exact this)
  clear hE ho ha
  go_wp2_with (fail)
  go_at_call 22
  refine (lSumTo A1 n1 c1 l1 _ HL1.out (by have := HL0.out; have := HL1.out; have := HL2.out; have := H80.out; have := H81.out; have := H82.out; have := HX9.out; have := HX12.out; omega) (HP1.out.ext ((((((((((((HD1.out).trans' HD2.out).trans' HD3.out).trans' HD4.out).trans' HD5.out).trans' HD6.out).trans' HD7.out).trans' HD8.out).trans' HD9.out).trans' HD10.out).trans' HD11.out).trans' HD12.out))).mono ?_
  rintro e w13 ⟨v13, rfl, ho13, hE⟩
  obtain ⟨B13, d13, hv, hp⟩ := pown_len ho13 HL1.out
  subst hv
  have HQ13 := Lib.hid hp; clear hp
  have HD13 := Lib.hid hE
  clear hE ho13
  go_wp2_with (fail)
  go_at_call 22
  refine (lSumTo A2 n2 c2 l2 _ HL2.out (by have := HL0.out; have := HL1.out; have := HL2.out; have := H80.out; have := H81.out; have := H82.out; have := HX9.out; have := HX12.out; omega) (HP2.out.ext (((((((((((((HD1.out).trans' HD2.out).trans' HD3.out).trans' HD4.out).trans' HD5.out).trans' HD6.out).trans' HD7.out).trans' HD8.out).trans' HD9.out).trans' HD10.out).trans' HD11.out).trans' HD12.out).trans' HD13.out))).mono ?_
  rintro e w14 ⟨v14, rfl, ho14, hE⟩
  obtain ⟨B14, d14, hv, hp⟩ := pown_len ho14 HL2.out
  subst hv
  have HQ14 := Lib.hid hp; clear hp
  have HD14 := Lib.hid hE
  clear hE ho14
  go_wp2_with (fail)
  go_at_call 21
  refine (iAddOf B13 B14 n1 d13 n2 d14 l1 l2 _ HL1.out HL2.out (by have := HL0.out; have := HL1.out; have := HL2.out; have := H80.out; have := H81.out; have := H82.out; have := HX9.out; have := HX12.out; omega) (HQ13.out.ext (HD14.out)) HQ14.out (both (fits_size HF1.out) (fits_size HF2.out)) (both (listB_abs HB1.out) (listB_abs HB2.out))).mono ?_
  intro e w15 h
  unfold RetAddOf at h
  rw [if_pos ⟨setB_sorted HS1.out, setB_sorted HS2.out⟩] at h
  obtain ⟨v15, r15, rfl, ha, ho, hE⟩ := h
  obtain ⟨B15, d15, hv, hp⟩ := pown_len ho rfl
  subst hv
  have HQ15 := Lib.hid hp; clear hp
  have HD15 := Lib.hid hE
  have HA15 := Lib.hid ha
  have HX15 := Lib.hid (show r15.length ≤ n1 + n2 from by have := isAdd_len ha; rw [List.length_append, HL1.out, HL2.out] at this; exact this)
  clear hE ho ha
  go_wp2_with (fail)
  have HK15 := Lib.hid (add_ok HA15.out (listB_len HB1.out) (listB_len HB2.out) (listB_mem HB1.out) (listB_mem HB2.out) (fits_size HF1.out) (fits_size HF2.out))
  go_at_call 22
  refine (lSumTo A2 n2 c2 l2 _ HL2.out (by have := HL0.out; have := HL1.out; have := HL2.out; have := H80.out; have := H81.out; have := H82.out; have := HX9.out; have := HX12.out; have := HX15.out; omega) (HP2.out.ext (((((((((((((((HD1.out).trans' HD2.out).trans' HD3.out).trans' HD4.out).trans' HD5.out).trans' HD6.out).trans' HD7.out).trans' HD8.out).trans' HD9.out).trans' HD10.out).trans' HD11.out).trans' HD12.out).trans' HD13.out).trans' HD14.out).trans' HD15.out))).mono ?_
  rintro e w16 ⟨v16, rfl, ho16, hE⟩
  obtain ⟨B16, d16, hv, hp⟩ := pown_len ho16 HL2.out
  subst hv
  have HQ16 := Lib.hid hp; clear hp
  have HD16 := Lib.hid hE
  clear hE ho16
  go_wp2_with (fail)
  go_at_call 21
  refine (iAddOf B9 B16 r9.length d9 n2 d16 r9 l2 _ rfl HL2.out (by have := HL0.out; have := HL1.out; have := HL2.out; have := H80.out; have := H81.out; have := H82.out; have := HX9.out; have := HX12.out; have := HX15.out; omega) (HQ9.out.ext (((((((HD10.out).trans' HD11.out).trans' HD12.out).trans' HD13.out).trans' HD14.out).trans' HD15.out).trans' HD16.out)) HQ16.out (both HK9.out.2.1 (fits_size HF2.out)) (both HK9.out.1 (listB_abs HB2.out))).mono ?_
  intro e w17 h
  unfold RetAddOf at h
  rw [if_pos ⟨HK9.out.2.2, setB_sorted HS2.out⟩] at h
  obtain ⟨v17, r17, rfl, ha, ho, hE⟩ := h
  obtain ⟨B17, d17, hv, hp⟩ := pown_len ho rfl
  subst hv
  have HQ17 := Lib.hid hp; clear hp
  have HD17 := Lib.hid hE
  have HA17 := Lib.hid ha
  have HX17 := Lib.hid (show r17.length ≤ r9.length + n2 from by have := isAdd_len ha; rw [List.length_append] at this; have := Nat.le_refl 0; have := HL2.out; omega)
  clear hE ho ha
  go_wp2_with (fail)
  go_at_call 22
  refine (lSumTo A0 n0 c0 l0 _ HL0.out (by have := HL0.out; have := HL1.out; have := HL2.out; have := H80.out; have := H81.out; have := H82.out; have := HX9.out; have := HX12.out; have := HX15.out; have := HX17.out; omega) (HP0.out.ext (((((((((((((((((HD1.out).trans' HD2.out).trans' HD3.out).trans' HD4.out).trans' HD5.out).trans' HD6.out).trans' HD7.out).trans' HD8.out).trans' HD9.out).trans' HD10.out).trans' HD11.out).trans' HD12.out).trans' HD13.out).trans' HD14.out).trans' HD15.out).trans' HD16.out).trans' HD17.out))).mono ?_
  rintro e w18 ⟨v18, rfl, ho18, hE⟩
  obtain ⟨B18, d18, hv, hp⟩ := pown_len ho18 HL0.out
  subst hv
  have HQ18 := Lib.hid hp; clear hp
  have HD18 := Lib.hid hE
  clear hE ho18
  go_wp2_with (fail)
  go_at_call 21
  refine (iAddOf B18 B15 n0 d18 r15.length d15 l0 r15 _ HL0.out rfl (by have := HL0.out; have := HL1.out; have := HL2.out; have := H80.out; have := H81.out; have := H82.out; have := HX9.out; have := HX12.out; have := HX15.out; have := HX17.out; omega) HQ18.out (HQ15.out.ext (((HD16.out).trans' HD17.out).trans' HD18.out)) (both (fits_size HF0.out) HK15.out.2.1) (both (listB_abs HB0.out) HK15.out.1)).mono ?_
  intro e w19 h
  unfold RetAddOf at h
  rw [if_pos ⟨setB_sorted HS0.out, HK15.out.2.2⟩] at h
  obtain ⟨v19, r19, rfl, ha, ho, hE⟩ := h
  obtain ⟨B19, d19, hv, hp⟩ := pown_len ho rfl
  subst hv
  have HQ19 := Lib.hid hp; clear hp
  have HD19 := Lib.hid hE
  have HA19 := Lib.hid ha
  have HX19 := Lib.hid (show r19.length ≤ n0 + r15.length from by have := isAdd_len ha; rw [List.length_append] at this; have := HL0.out; have := Nat.le_refl 0; omega)
  clear hE ho ha
  go_wp2_with (fail)
  obtain rfl : r9 = r12 := add_comm2 HA9.out HA12.out
  obtain rfl : r17 = r19 := add_assoc2 HA9.out HA17.out HA15.out HA19.out
  go_at_call 26
  refine (lSumFrom B9 r9.length d9 r9 _ rfl (by have := HL0.out; have := HL1.out; have := HL2.out; have := H80.out; have := H81.out; have := H82.out; have := HX9.out; have := HX12.out; have := HX15.out; have := HX17.out; have := HX19.out; omega) (HQ9.out.ext ((((((((((HD10.out).trans' HD11.out).trans' HD12.out).trans' HD13.out).trans' HD14.out).trans' HD15.out).trans' HD16.out).trans' HD17.out).trans' HD18.out).trans' HD19.out))).mono ?_
  rintro e w20 ⟨v20, rfl, ho20, hE⟩
  obtain ⟨B20, d20, hv, hp⟩ := pown_len ho20 rfl
  subst hv
  have HQ20 := Lib.hid hp; clear hp
  have HD20 := Lib.hid hE
  clear hE ho20
  go_wp2_with (fail)
  go_at_call 26
  refine (lSumFrom B12 r9.length d12 r9 _ rfl (by have := HL0.out; have := HL1.out; have := HL2.out; have := H80.out; have := H81.out; have := H82.out; have := HX9.out; have := HX12.out; have := HX15.out; have := HX17.out; have := HX19.out; omega) (HQ12.out.ext ((((((((HD13.out).trans' HD14.out).trans' HD15.out).trans' HD16.out).trans' HD17.out).trans' HD18.out).trans' HD19.out).trans' HD20.out))).mono ?_
  rintro e w21 ⟨v21, rfl, ho21, hE⟩
  obtain ⟨B21, d21, hv, hp⟩ := pown_len ho21 rfl
  subst hv
  have HQ21 := Lib.hid hp; clear hp
  have HD21 := Lib.hid hE
  clear hE ho21
  go_wp2_with (fail)
  go_at_call 25
  refine (sSumSame B20 B21 r9.length d20 r9.length d21 r9 r9 _ rfl rfl (by have := HL0.out; have := HL1.out; have := HL2.out; have := H80.out; have := H81.out; have := H82.out; have := HX9.out; have := HX12.out; have := HX15.out; have := HX17.out; have := HX19.out; omega) (by have := HL0.out; have := HL1.out; have := HL2.out; have := H80.out; have := H81.out; have := H82.out; have := HX9.out; have := HX12.out; have := HX15.out; have := HX17.out; have := HX19.out; omega) (HQ20.out.ext (HD21.out)) HQ21.out).mono ?_
  rintro e w22 ⟨rfl, hE⟩
  have HD22 := Lib.hid (ext_q hE)
  clear hE
  rw [decide_eq_true rfl]
  go_wp2_with (fail)
  go_at_call 26
  refine (lSumFrom B17 r17.length d17 r17 _ rfl (by have := HL0.out; have := HL1.out; have := HL2.out; have := H80.out; have := H81.out; have := H82.out; have := HX9.out; have := HX12.out; have := HX15.out; have := HX17.out; have := HX19.out; omega) (HQ17.out.ext (((((HD18.out).trans' HD19.out).trans' HD20.out).trans' HD21.out).trans' HD22.out))).mono ?_
  rintro e w23 ⟨v23, rfl, ho23, hE⟩
  obtain ⟨B23, d23, hv, hp⟩ := pown_len ho23 rfl
  subst hv
  have HQ23 := Lib.hid hp; clear hp
  have HD23 := Lib.hid hE
  clear hE ho23
  go_wp2_with (fail)
  go_at_call 26
  refine (lSumFrom B19 r17.length d19 r17 _ rfl (by have := HL0.out; have := HL1.out; have := HL2.out; have := H80.out; have := H81.out; have := H82.out; have := HX9.out; have := HX12.out; have := HX15.out; have := HX17.out; have := HX19.out; omega) (HQ19.out.ext ((((HD20.out).trans' HD21.out).trans' HD22.out).trans' HD23.out))).mono ?_
  rintro e w24 ⟨v24, rfl, ho24, hE⟩
  obtain ⟨B24, d24, hv, hp⟩ := pown_len ho24 rfl
  subst hv
  have HQ24 := Lib.hid hp; clear hp
  have HD24 := Lib.hid hE
  clear hE ho24
  go_wp2_with (fail)
  go_at_call 25
  refine (sSumSame B23 B24 r17.length d23 r17.length d24 r17 r17 _ rfl rfl (by have := HL0.out; have := HL1.out; have := HL2.out; have := H80.out; have := H81.out; have := H82.out; have := HX9.out; have := HX12.out; have := HX15.out; have := HX17.out; have := HX19.out; omega) (by have := HL0.out; have := HL1.out; have := HL2.out; have := H80.out; have := H81.out; have := H82.out; have := HX9.out; have := HX12.out; have := HX15.out; have := HX17.out; have := HX19.out; omega) (HQ23.out.ext (HD24.out)) HQ24.out).mono ?_
  rintro e w25 ⟨rfl, hE⟩
  have HD25 := Lib.hid (ext_q hE)
  clear hE
  rw [decide_eq_true rfl]
  have HL012 := Lib.hid (show ((l0 ++ l1) ++ l2).length = (n0 + n1 + n2) by simp only [List.length_append]; have := HL0.out; have := HL1.out; have := HL2.out; omega)
  go_wp2_with (first | (at_builtin; go_loud (refine wpList_append_plain (by rfl) _ _ 22 43 rfl w25.heap.size i0 _ Tryz.underlying22 hi hz0 hz1 hz2 rfl _ (l0 ++ l1) rfl HO26_1.out A2 n2 c2 l2 rfl HL2.out ((HP2.out.ext (((((((((((((((((((((((((HD1.out).trans' HD2.out).trans' HD3.out).trans' HD4.out).trans' HD5.out).trans' HD6.out).trans' HD7.out).trans' HD8.out).trans' HD9.out).trans' HD10.out).trans' HD11.out).trans' HD12.out).trans' HD13.out).trans' HD14.out).trans' HD15.out).trans' HD16.out).trans' HD17.out).trans' HD18.out).trans' HD19.out).trans' HD20.out).trans' HD21.out).trans' HD22.out).trans' HD23.out).trans' HD24.out).trans' HD25.out)).ext HX26_1.out) (by rw [List.length_append]; have := HL0.out; have := HL1.out; have := HL2.out; have := H80.out; have := H81.out; have := H82.out; have := HX9.out; have := HX12.out; have := HX15.out; have := HX17.out; have := HX19.out; omega) (HX26_1.out).size ?_); intro v26_2 w26_2 ho26_2 hx26_2; have HX26_2 := Lib.hid (hx26_2 w25 HX26_1.out (Nat.le_refl _)); clear hx26_2; have HO26_2 := Lib.hid (show PlainOwn _ _ _ _ ((l0 ++ l1) ++ l2) from ho26_2); clear ho26_2; obtain ⟨B26, d26, hv, hp⟩ := pown_len HO26_2.out HL012.out; subst hv; have HQ26 := Lib.hid hp; clear hp; have HD26 := Lib.hid HX26_2.out) | (at_builtin; go_loud (refine wpList_append_plain (by rfl) _ _ 22 43 rfl w25.heap.size i0 _ Tryz.underlying22 hi hz0 hz1 hz2 rfl _ l0 rfl HO26_0.out A1 n1 c1 l1 rfl HL1.out ((HP1.out.ext (((((((((((((((((((((((((HD1.out).trans' HD2.out).trans' HD3.out).trans' HD4.out).trans' HD5.out).trans' HD6.out).trans' HD7.out).trans' HD8.out).trans' HD9.out).trans' HD10.out).trans' HD11.out).trans' HD12.out).trans' HD13.out).trans' HD14.out).trans' HD15.out).trans' HD16.out).trans' HD17.out).trans' HD18.out).trans' HD19.out).trans' HD20.out).trans' HD21.out).trans' HD22.out).trans' HD23.out).trans' HD24.out).trans' HD25.out)).ext HX26_0.out) (by have := HL0.out; have := HL1.out; have := HL2.out; have := H80.out; have := H81.out; have := H82.out; have := HX9.out; have := HX12.out; have := HX15.out; have := HX17.out; have := HX19.out; omega) (HX26_0.out).size ?_); intro v26_1 w26_1 ho26_1 hx26_1; have HX26_1 := Lib.hid (hx26_1 w25 HX26_0.out (Nat.le_refl _)); clear hx26_1; have HO26_1 := Lib.hid (show PlainOwn _ _ _ _ (l0 ++ l1) from ho26_1); clear ho26_1) | (at_builtin; go_loud (refine wpList_append_plain (by rfl) _ _ 22 43 rfl w25.heap.size i0 _ Tryz.underlying22 hi hz0 hz1 hz2 rfl _ ([] : List (ByteArray × Int)) rfl (PlainOwn.nil _ _ _) A0 n0 c0 l0 rfl HL0.out ((HP0.out.ext (((((((((((((((((((((((((HD1.out).trans' HD2.out).trans' HD3.out).trans' HD4.out).trans' HD5.out).trans' HD6.out).trans' HD7.out).trans' HD8.out).trans' HD9.out).trans' HD10.out).trans' HD11.out).trans' HD12.out).trans' HD13.out).trans' HD14.out).trans' HD15.out).trans' HD16.out).trans' HD17.out).trans' HD18.out).trans' HD19.out).trans' HD20.out).trans' HD21.out).trans' HD22.out).trans' HD23.out).trans' HD24.out).trans' HD25.out)).ext (Ext.refl _)) (by rw [List.length_nil]; have := HL0.out; have := HL1.out; have := HL2.out; have := H80.out; have := H81.out; have := H82.out; have := HX9.out; have := HX12.out; have := HX15.out; have := HX17.out; have := HX19.out; omega) ((Ext.refl _)).size ?_); intro v26_0 w26_0 ho26_0 hx26_0; have HX26_0 := Lib.hid (hx26_0 w25 (Ext.refl _) (Nat.le_refl _)); clear hx26_0; have HO26_0 := Lib.hid (show PlainOwn _ _ _ _ l0 from ho26_0); clear ho26_0))
  go_at_call 27
  refine (sSumTotal B26 (n0 + n1 + n2) d26 ((l0 ++ l1) ++ l2) _ HL012.out (by have := HL0.out; have := HL1.out; have := HL2.out; have := H80.out; have := H81.out; have := H82.out; have := HX9.out; have := HX12.out; have := HX15.out; have := HX17.out; have := HX19.out; omega) HQ26.out (both (both (listB_abs HB0.out) (listB_abs HB1.out)) (listB_abs HB2.out))).mono ?_
  rintro e w27 ⟨r27, ⟨v27, rfl, ho27, hE⟩, hr27⟩
  obtain ⟨B27, d27, hv, hp⟩ := pown_len ho27 rfl
  subst hv
  have HQ27 := Lib.hid hp; clear hp
  have HD27 := Lib.hid hE
  have HR27 := Lib.hid hr27
  clear hE ho27 hr27
  obtain rfl : r17 = r27 := add_all HA9.out HA17.out HR27.out
  go_wp2_with (fail)
  go_at_call 24
  refine (sumAwake _).mono ?_
  rintro e w28 ⟨rfl, hE⟩
  have HD28 := Lib.hid hE
  clear hE
  go_wp2_with (fail)
  go_ret
  exact ⟨rfl, ((((((((((((((((((((((((((((HD1.out).trans' HD2.out).trans' HD3.out).trans' HD4.out).trans' HD5.out).trans' HD6.out).trans' HD7.out).trans' HD8.out).trans' HD9.out).trans' HD10.out).trans' HD11.out).trans' HD12.out).trans' HD13.out).trans' HD14.out).trans' HD15.out).trans' HD16.out).trans' HD17.out).trans' HD18.out).trans' HD19.out).trans' HD20.out).trans' HD21.out).trans' HD22.out).trans' HD23.out).trans' HD24.out).trans' HD25.out).trans' HD26.out).trans' HD27.out).trans' HD28.out)⟩
end Go.Proofs.YtagfbefgcijegaaGreatDoor
