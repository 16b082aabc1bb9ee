/-
  The walk of the law FnCoinsOrder: it returns true.
-/
import Derived.Test.YtagfbefgcijegaaGreatDoorGE
import Derived.Test.YtagfbefgcijegaaGreatDoorAtMost
import Derived.Test.YtagfbefgcijegaaGreatDoorGH
namespace Go.Proofs.YtagfbefgcijegaaGreatDoor
open Go Go.RowKit

set_option maxRecDepth 100000 in
set_option maxHeartbeats 8000000 in
theorem lawOrder (A0 : Option Addr) (n0 c0 : Nat) (l0 : List (ByteArray × Int)) (A1 : Option Addr) (n1 c1 : Nat) (l1 : List (ByteArray × Int)) (A2 : Option Addr) (n2 c2 : Nat) (l2 : List (ByteArray × Int)) (w : World) (hl0 : l0.length = n0) (hn0 : n0 ≤ 9223372036854775807) (h0 : PlainAt w A0 l0) (hl1 : l1.length = n1) (hn1 : n1 ≤ 9223372036854775807) (h1 : PlainAt w A1 l1) (hl2 : l2.length = n2) (hn2 : n2 ≤ 9223372036854775807) (h2 : PlainAt w A2 l2) :
    Calls Tryz.prog 16 #[.slice A0 n0 c0, .slice A1 n1 c1, .slice A2 n2 c2] w (RetE (.bool true) w) := by
  have HL0 := Lib.hid hl0; have HN0 := Lib.hid hn0; have HP0 := Lib.hid h0
  have HL1 := Lib.hid hl1; have HN1 := Lib.hid hn1; have HP1 := Lib.hid h1
  have HL2 := Lib.hid hl2; have HN2 := Lib.hid hn2; have HP2 := Lib.hid h2
  clear hl0 hn0 h0 hl1 hn1 h1 hl2 hn2 h2
  go_enter Tryz.func16, Tryz.ntmps16
  go_wp2_with (fail)
  go_at_call 19
  refine (zFits2 A0 n0 c0 l0 _ HL0.out HN0.out (HP0.out.ext (Ext.refl _))).mono ?_
  rintro e w1 ⟨r, rfl, hf, hE⟩
  have HD1 := Lib.hid hE
  clear hE
  cases r
  · go_wp2_with (fail)
    go_ret
    exact ⟨rfl, (HD1.out)⟩
  have HF0 := Lib.hid (hf rfl); clear hf
  go_wp2_with (fail)
  go_at_call 19
  refine (zFits2 A1 n1 c1 l1 _ HL1.out HN1.out (HP1.out.ext (HD1.out))).mono ?_
  rintro e w2 ⟨r, rfl, hf, hE⟩
  have HD2 := Lib.hid hE
  clear hE
  cases r
  · go_wp2_with (fail)
    go_ret
    exact ⟨rfl, ((HD1.out).trans' HD2.out)⟩
  have HF1 := Lib.hid (hf rfl); clear hf
  go_wp2_with (fail)
  go_at_call 19
  refine (zFits2 A2 n2 c2 l2 _ HL2.out HN2.out (HP2.out.ext ((HD1.out).trans' HD2.out))).mono ?_
  rintro e w3 ⟨r, rfl, hf, hE⟩
  have HD3 := Lib.hid hE
  clear hE
  cases r
  · go_wp2_with (fail)
    go_ret
    exact ⟨rfl, (((HD1.out).trans' HD2.out).trans' HD3.out)⟩
  have HF2 := Lib.hid (hf rfl); clear hf
  go_wp2_with (fail)
  go_at_call 28
  refine (sIsSumSet A0 n0 c0 l0 _ HL0.out HF0.out (HP0.out.ext (((HD1.out).trans' HD2.out).trans' HD3.out))).mono ?_
  rintro e w4 ⟨rfl, hE⟩
  have HD4 := Lib.hid hE
  clear hE
  cases hb4 : setB l0
  · go_wp2_with (fail)
    go_ret
    exact ⟨rfl, ((((HD1.out).trans' HD2.out).trans' HD3.out).trans' HD4.out)⟩
  have HS0 := Lib.hid hb4; clear hb4
  go_wp2_with (fail)
  have HB0 := Lib.hid (setB_list HS0.out)
  have H80 := Lib.hid (show n0 ≤ 8 from by have := listB_len HB0.out; have := HL0.out; omega)
  go_at_call 28
  refine (sIsSumSet A1 n1 c1 l1 _ HL1.out HF1.out (HP1.out.ext ((((HD1.out).trans' HD2.out).trans' HD3.out).trans' HD4.out))).mono ?_
  rintro e w5 ⟨rfl, hE⟩
  have HD5 := Lib.hid hE
  clear hE
  cases hb5 : setB l1
  · go_wp2_with (fail)
    go_ret
    exact ⟨rfl, (((((HD1.out).trans' HD2.out).trans' HD3.out).trans' HD4.out).trans' HD5.out)⟩
  have HS1 := Lib.hid hb5; clear hb5
  go_wp2_with (fail)
  have HB1 := Lib.hid (setB_list HS1.out)
  have H81 := Lib.hid (show n1 ≤ 8 from by have := listB_len HB1.out; have := HL1.out; omega)
  go_at_call 28
  refine (sIsSumSet A2 n2 c2 l2 _ HL2.out HF2.out (HP2.out.ext (((((HD1.out).trans' HD2.out).trans' HD3.out).trans' HD4.out).trans' HD5.out))).mono ?_
  rintro e w6 ⟨rfl, hE⟩
  have HD6 := Lib.hid hE
  clear hE
  cases hb6 : setB l2
  · go_wp2_with (fail)
    go_ret
    exact ⟨rfl, ((((((HD1.out).trans' HD2.out).trans' HD3.out).trans' HD4.out).trans' HD5.out).trans' HD6.out)⟩
  have HS2 := Lib.hid hb6; clear hb6
  go_wp2_with (fail)
  have HB2 := Lib.hid (setB_list HS2.out)
  have H82 := Lib.hid (show n2 ≤ 8 from by have := listB_len HB2.out; have := HL2.out; omega)
  obtain ⟨p, hp⟩ : ∃ b, b = gteB l1 l0 := ⟨_, rfl⟩
  have HVp := Lib.hid hp; clear hp
  obtain ⟨q, hq⟩ : ∃ b, b = gteB l2 l1 := ⟨_, rfl⟩
  have HVq := Lib.hid hq; clear hq
  obtain ⟨r, hr⟩ : ∃ b, b = gteB l2 l0 := ⟨_, rfl⟩
  have HVr := Lib.hid hr; clear hr
  obtain ⟨s, hs⟩ : ∃ b, b = gteB l0 l1 := ⟨_, rfl⟩
  have HVs := Lib.hid hs; clear hs
  have HSA := Lib.hid (show gteB l0 l0 = true from lte_refl (setB_is HS0.out))
  have HTR := Lib.hid (show p = true → q = true → r = true by intro h1 h2; rw [HVp.out] at h1; rw [HVq.out] at h2; rw [HVr.out]; exact lte_trans (setB_is HS0.out) (setB_is HS1.out) (setB_is HS2.out) h1 h2)
  have HAN := Lib.hid (show p = true → s = true → l0 = l1 by intro h1 h2; rw [HVp.out] at h1; rw [HVs.out] at h2; exact lte_anti (setB_is HS0.out) (setB_is HS1.out) h1 h2)
  cases p
  · go_wp2_with (fail)
    go_at_call 68
    refine (cAtMost A0 A0 n0 c0 n0 c0 l0 l0 _ HL0.out HL0.out (by have := HL0.out; have := HL1.out; have := HL2.out; have := H80.out; have := H81.out; have := H82.out; omega) (by have := HL0.out; have := HL1.out; have := HL2.out; have := H80.out; have := H81.out; have := H82.out; omega) (HP0.out.ext ((((((HD1.out).trans' HD2.out).trans' HD3.out).trans' HD4.out).trans' HD5.out).trans' HD6.out)) (HP0.out.ext ((((((HD1.out).trans' HD2.out).trans' HD3.out).trans' HD4.out).trans' HD5.out).trans' HD6.out)) (both (listB_abs HB0.out) (listB_abs HB0.out)) (both (fits_size HF0.out) (fits_size HF0.out)) (setB_is HS0.out) (setB_is HS0.out)).mono ?_
    rintro e w7 ⟨rfl, hE⟩
    have HD7 := Lib.hid hE
    clear hE
    rw [HSA.out]
    go_wp2_with (fail)
    go_at_call 68
    refine (cAtMost A0 A1 n0 c0 n1 c1 l0 l1 _ HL0.out HL1.out (by have := HL0.out; have := HL1.out; have := HL2.out; have := H80.out; have := H81.out; have := H82.out; omega) (by have := HL0.out; have := HL1.out; have := HL2.out; have := H80.out; have := H81.out; have := H82.out; omega) (HP0.out.ext (((((((HD1.out).trans' HD2.out).trans' HD3.out).trans' HD4.out).trans' HD5.out).trans' HD6.out).trans' HD7.out)) (HP1.out.ext (((((((HD1.out).trans' HD2.out).trans' HD3.out).trans' HD4.out).trans' HD5.out).trans' HD6.out).trans' HD7.out)) (both (listB_abs HB0.out) (listB_abs HB1.out)) (both (fits_size HF0.out) (fits_size HF1.out)) (setB_is HS0.out) (setB_is HS1.out)).mono ?_
    rintro e w8 ⟨rfl, hE⟩
    have HD8 := Lib.hid hE
    clear hE
    rw [← HVp.out]
    go_wp2_with (fail)
    go_at_call 68
    refine (cAtMost A0 A1 n0 c0 n1 c1 l0 l1 _ HL0.out HL1.out (by have := HL0.out; have := HL1.out; have := HL2.out; have := H80.out; have := H81.out; have := H82.out; omega) (by have := HL0.out; have := HL1.out; have := HL2.out; have := H80.out; have := H81.out; have := H82.out; omega) (HP0.out.ext ((((((((HD1.out).trans' HD2.out).trans' HD3.out).trans' HD4.out).trans' HD5.out).trans' HD6.out).trans' HD7.out).trans' HD8.out)) (HP1.out.ext ((((((((HD1.out).trans' HD2.out).trans' HD3.out).trans' HD4.out).trans' HD5.out).trans' HD6.out).trans' HD7.out).trans' HD8.out)) (both (listB_abs HB0.out) (listB_abs HB1.out)) (both (fits_size HF0.out) (fits_size HF1.out)) (setB_is HS0.out) (setB_is HS1.out)).mono ?_
    rintro e w9 ⟨rfl, hE⟩
    have HD9 := Lib.hid hE
    clear hE
    rw [← HVp.out]
    go_wp2_with (fail)
    go_at_call 22
    refine (lSumTo A1 n1 c1 l1 _ HL1.out (by have := HL0.out; have := HL1.out; have := HL2.out; have := H80.out; have := H81.out; have := H82.out; omega) (HP1.out.ext (((((((((HD1.out).trans' HD2.out).trans' HD3.out).trans' HD4.out).trans' HD5.out).trans' HD6.out).trans' HD7.out).trans' HD8.out).trans' HD9.out))).mono ?_
    rintro e w10 ⟨v10, rfl, ho10, hE⟩
    obtain ⟨B10, d10, hv, hp⟩ := pown_len ho10 HL1.out
    subst hv
    have HQ10 := Lib.hid hp; clear hp
    have HD10 := Lib.hid hE
    clear hE ho10
    go_wp2_with (fail)
    go_at_call 22
    refine (lSumTo A0 n0 c0 l0 _ HL0.out (by have := HL0.out; have := HL1.out; have := HL2.out; have := H80.out; have := H81.out; have := H82.out; omega) (HP0.out.ext ((((((((((HD1.out).trans' HD2.out).trans' HD3.out).trans' HD4.out).trans' HD5.out).trans' HD6.out).trans' HD7.out).trans' HD8.out).trans' HD9.out).trans' HD10.out))).mono ?_
    rintro e w11 ⟨v11, rfl, ho11, hE⟩
    obtain ⟨B11, d11, hv, hp⟩ := pown_len ho11 HL0.out
    subst hv
    have HQ11 := Lib.hid hp; clear hp
    have HD11 := Lib.hid hE
    clear hE ho11
    go_wp2_with (fail)
    go_at_call 55
    refine (iSubOf B10 B11 n1 d10 n0 d11 l1 l0 _ HL1.out HL0.out (by have := HL0.out; have := HL1.out; have := HL2.out; have := H80.out; have := H81.out; have := H82.out; omega) (by have := HL0.out; have := HL1.out; have := HL2.out; have := H80.out; have := H81.out; have := H82.out; omega) (HQ10.out.ext (HD11.out)) HQ11.out (both (fits_size HF1.out) (fits_size HF0.out)) (both (listB_abs HB1.out) (listB_abs HB0.out)) (setB_sorted HS1.out) (setB_is HS0.out)).mono ?_
    rintro e w12 ⟨r', had, hE, hc⟩
    rw [neg_lte (setB_is HS0.out) (setB_is HS1.out) had, ← HVp.out] at hc
    have HD12 := Lib.hid hE
    rcases hc with ⟨_, rfl⟩ | ⟨hc, _⟩
    rotate_left
    · cases hc
    clear hE had
    go_wp2_with (fail)
    go_at_call 68
    refine (cAtMost A0 A1 n0 c0 n1 c1 l0 l1 _ HL0.out HL1.out (by have := HL0.out; have := HL1.out; have := HL2.out; have := H80.out; have := H81.out; have := H82.out; omega) (by have := HL0.out; have := HL1.out; have := HL2.out; have := H80.out; have := H81.out; have := H82.out; omega) (HP0.out.ext ((((((((((((HD1.out).trans' HD2.out).trans' HD3.out).trans' HD4.out).trans' HD5.out).trans' HD6.out).trans' HD7.out).trans' HD8.out).trans' HD9.out).trans' HD10.out).trans' HD11.out).trans' HD12.out)) (HP1.out.ext ((((((((((((HD1.out).trans' HD2.out).trans' HD3.out).trans' HD4.out).trans' HD5.out).trans' HD6.out).trans' HD7.out).trans' HD8.out).trans' HD9.out).trans' HD10.out).trans' HD11.out).trans' HD12.out)) (both (listB_abs HB0.out) (listB_abs HB1.out)) (both (fits_size HF0.out) (fits_size HF1.out)) (setB_is HS0.out) (setB_is HS1.out)).mono ?_
    rintro e w13 ⟨rfl, hE⟩
    have HD13 := Lib.hid hE
    clear hE
    rw [← HVp.out]
    go_wp2_with (fail)
    go_at_call 24
    refine (sumAwake _).mono ?_
    rintro e w14 ⟨rfl, hE⟩
    have HD14 := Lib.hid hE
    clear hE
    go_wp2_with (fail)
    go_ret
    exact ⟨rfl, ((((((((((((((HD1.out).trans' HD2.out).trans' HD3.out).trans' HD4.out).trans' HD5.out).trans' HD6.out).trans' HD7.out).trans' HD8.out).trans' HD9.out).trans' HD10.out).trans' HD11.out).trans' HD12.out).trans' HD13.out).trans' HD14.out)⟩
  · cases q
    · go_wp2_with (fail)
      go_at_call 68
      refine (cAtMost A0 A0 n0 c0 n0 c0 l0 l0 _ HL0.out HL0.out (by have := HL0.out; have := HL1.out; have := HL2.out; have := H80.out; have := H81.out; have := H82.out; omega) (by have := HL0.out; have := HL1.out; have := HL2.out; have := H80.out; have := H81.out; have := H82.out; omega) (HP0.out.ext ((((((HD1.out).trans' HD2.out).trans' HD3.out).trans' HD4.out).trans' HD5.out).trans' HD6.out)) (HP0.out.ext ((((((HD1.out).trans' HD2.out).trans' HD3.out).trans' HD4.out).trans' HD5.out).trans' HD6.out)) (both (listB_abs HB0.out) (listB_abs HB0.out)) (both (fits_size HF0.out) (fits_size HF0.out)) (setB_is HS0.out) (setB_is HS0.out)).mono ?_
      rintro e w7 ⟨rfl, hE⟩
      have HD7 := Lib.hid hE
      clear hE
      rw [HSA.out]
      go_wp2_with (fail)
      go_at_call 68
      refine (cAtMost A0 A1 n0 c0 n1 c1 l0 l1 _ HL0.out HL1.out (by have := HL0.out; have := HL1.out; have := HL2.out; have := H80.out; have := H81.out; have := H82.out; omega) (by have := HL0.out; have := HL1.out; have := HL2.out; have := H80.out; have := H81.out; have := H82.out; omega) (HP0.out.ext (((((((HD1.out).trans' HD2.out).trans' HD3.out).trans' HD4.out).trans' HD5.out).trans' HD6.out).trans' HD7.out)) (HP1.out.ext (((((((HD1.out).trans' HD2.out).trans' HD3.out).trans' HD4.out).trans' HD5.out).trans' HD6.out).trans' HD7.out)) (both (listB_abs HB0.out) (listB_abs HB1.out)) (both (fits_size HF0.out) (fits_size HF1.out)) (setB_is HS0.out) (setB_is HS1.out)).mono ?_
      rintro e w8 ⟨rfl, hE⟩
      have HD8 := Lib.hid hE
      clear hE
      rw [← HVp.out]
      go_wp2_with (fail)
      go_at_call 68
      refine (cAtMost A1 A2 n1 c1 n2 c2 l1 l2 _ HL1.out HL2.out (by have := HL0.out; have := HL1.out; have := HL2.out; have := H80.out; have := H81.out; have := H82.out; omega) (by have := HL0.out; have := HL1.out; have := HL2.out; have := H80.out; have := H81.out; have := H82.out; omega) (HP1.out.ext ((((((((HD1.out).trans' HD2.out).trans' HD3.out).trans' HD4.out).trans' HD5.out).trans' HD6.out).trans' HD7.out).trans' HD8.out)) (HP2.out.ext ((((((((HD1.out).trans' HD2.out).trans' HD3.out).trans' HD4.out).trans' HD5.out).trans' HD6.out).trans' HD7.out).trans' HD8.out)) (both (listB_abs HB1.out) (listB_abs HB2.out)) (both (fits_size HF1.out) (fits_size HF2.out)) (setB_is HS1.out) (setB_is HS2.out)).mono ?_
      rintro e w9 ⟨rfl, hE⟩
      have HD9 := Lib.hid hE
      clear hE
      rw [← HVq.out]
      cases s
      · go_wp2_with (fail)
        go_at_call 68
        refine (cAtMost A0 A1 n0 c0 n1 c1 l0 l1 _ HL0.out HL1.out (by have := HL0.out; have := HL1.out; have := HL2.out; have := H80.out; have := H81.out; have := H82.out; omega) (by have := HL0.out; have := HL1.out; have := HL2.out; have := H80.out; have := H81.out; have := H82.out; omega) (HP0.out.ext (((((((((HD1.out).trans' HD2.out).trans' HD3.out).trans' HD4.out).trans' HD5.out).trans' HD6.out).trans' HD7.out).trans' HD8.out).trans' HD9.out)) (HP1.out.ext (((((((((HD1.out).trans' HD2.out).trans' HD3.out).trans' HD4.out).trans' HD5.out).trans' HD6.out).trans' HD7.out).trans' HD8.out).trans' HD9.out)) (both (listB_abs HB0.out) (listB_abs HB1.out)) (both (fits_size HF0.out) (fits_size HF1.out)) (setB_is HS0.out) (setB_is HS1.out)).mono ?_
        rintro e w10 ⟨rfl, hE⟩
        have HD10 := Lib.hid hE
        clear hE
        rw [← HVp.out]
        go_wp2_with (fail)
        go_at_call 68
        refine (cAtMost A1 A0 n1 c1 n0 c0 l1 l0 _ HL1.out HL0.out (by have := HL0.out; have := HL1.out; have := HL2.out; have := H80.out; have := H81.out; have := H82.out; omega) (by have := HL0.out; have := HL1.out; have := HL2.out; have := H80.out; have := H81.out; have := H82.out; omega) (HP1.out.ext ((((((((((HD1.out).trans' HD2.out).trans' HD3.out).trans' HD4.out).trans' HD5.out).trans' HD6.out).trans' HD7.out).trans' HD8.out).trans' HD9.out).trans' HD10.out)) (HP0.out.ext ((((((((((HD1.out).trans' HD2.out).trans' HD3.out).trans' HD4.out).trans' HD5.out).trans' HD6.out).trans' HD7.out).trans' HD8.out).trans' HD9.out).trans' HD10.out)) (both (listB_abs HB1.out) (listB_abs HB0.out)) (both (fits_size HF1.out) (fits_size HF0.out)) (setB_is HS1.out) (setB_is HS0.out)).mono ?_
        rintro e w11 ⟨rfl, hE⟩
        have HD11 := Lib.hid hE
        clear hE
        rw [← HVs.out]
        go_wp2_with (fail)
        go_at_call 22
        refine (lSumTo A1 n1 c1 l1 _ HL1.out (by have := HL0.out; have := HL1.out; have := HL2.out; have := H80.out; have := H81.out; have := H82.out; omega) (HP1.out.ext (((((((((((HD1.out).trans' HD2.out).trans' HD3.out).trans' HD4.out).trans' HD5.out).trans' HD6.out).trans' HD7.out).trans' HD8.out).trans' HD9.out).trans' HD10.out).trans' HD11.out))).mono ?_
        rintro e w12 ⟨v12, rfl, ho12, hE⟩
        obtain ⟨B12, d12, hv, hp⟩ := pown_len ho12 HL1.out
        subst hv
        have HQ12 := Lib.hid hp; clear hp
        have HD12 := Lib.hid hE
        clear hE ho12
        go_wp2_with (fail)
        go_at_call 22
        refine (lSumTo A0 n0 c0 l0 _ HL0.out (by have := HL0.out; have := HL1.out; have := HL2.out; have := H80.out; have := H81.out; have := H82.out; omega) (HP0.out.ext ((((((((((((HD1.out).trans' HD2.out).trans' HD3.out).trans' HD4.out).trans' HD5.out).trans' HD6.out).trans' HD7.out).trans' HD8.out).trans' HD9.out).trans' HD10.out).trans' HD11.out).trans' HD12.out))).mono ?_
        rintro e w13 ⟨v13, rfl, ho13, hE⟩
        obtain ⟨B13, d13, hv, hp⟩ := pown_len ho13 HL0.out
        subst hv
        have HQ13 := Lib.hid hp; clear hp
        have HD13 := Lib.hid hE
        clear hE ho13
        go_wp2_with (fail)
        go_at_call 55
        refine (iSubOf B12 B13 n1 d12 n0 d13 l1 l0 _ HL1.out HL0.out (by have := HL0.out; have := HL1.out; have := HL2.out; have := H80.out; have := H81.out; have := H82.out; omega) (by have := HL0.out; have := HL1.out; have := HL2.out; have := H80.out; have := H81.out; have := H82.out; omega) (HQ12.out.ext (HD13.out)) HQ13.out (both (fits_size HF1.out) (fits_size HF0.out)) (both (listB_abs HB1.out) (listB_abs HB0.out)) (setB_sorted HS1.out) (setB_is HS0.out)).mono ?_
        rintro e w14 ⟨r', had, hE, hc⟩
        rw [neg_lte (setB_is HS0.out) (setB_is HS1.out) had, ← HVp.out] at hc
        have HD14 := Lib.hid hE
        rcases hc with ⟨hc, _⟩ | ⟨_, v14, rfl, _⟩
        · cases hc
        clear hE had
        go_wp2_with (fail)
        go_at_call 68
        refine (cAtMost A0 A1 n0 c0 n1 c1 l0 l1 _ HL0.out HL1.out (by have := HL0.out; have := HL1.out; have := HL2.out; have := H80.out; have := H81.out; have := H82.out; omega) (by have := HL0.out; have := HL1.out; have := HL2.out; have := H80.out; have := H81.out; have := H82.out; omega) (HP0.out.ext ((((((((((((((HD1.out).trans' HD2.out).trans' HD3.out).trans' HD4.out).trans' HD5.out).trans' HD6.out).trans' HD7.out).trans' HD8.out).trans' HD9.out).trans' HD10.out).trans' HD11.out).trans' HD12.out).trans' HD13.out).trans' HD14.out)) (HP1.out.ext ((((((((((((((HD1.out).trans' HD2.out).trans' HD3.out).trans' HD4.out).trans' HD5.out).trans' HD6.out).trans' HD7.out).trans' HD8.out).trans' HD9.out).trans' HD10.out).trans' HD11.out).trans' HD12.out).trans' HD13.out).trans' HD14.out)) (both (listB_abs HB0.out) (listB_abs HB1.out)) (both (fits_size HF0.out) (fits_size HF1.out)) (setB_is HS0.out) (setB_is HS1.out)).mono ?_
        rintro e w15 ⟨rfl, hE⟩
        have HD15 := Lib.hid hE
        clear hE
        rw [← HVp.out]
        go_wp2_with (fail)
        go_at_call 24
        refine (sumAwake _).mono ?_
        rintro e w16 ⟨rfl, hE⟩
        have HD16 := Lib.hid hE
        clear hE
        go_wp2_with (fail)
        go_ret
        exact ⟨rfl, ((((((((((((((((HD1.out).trans' HD2.out).trans' HD3.out).trans' HD4.out).trans' HD5.out).trans' HD6.out).trans' HD7.out).trans' HD8.out).trans' HD9.out).trans' HD10.out).trans' HD11.out).trans' HD12.out).trans' HD13.out).trans' HD14.out).trans' HD15.out).trans' HD16.out)⟩
      · have HSM := Lib.hid (show l0 = l1 from HAN.out (by first | rfl | trivial) (by first | rfl | trivial))
        go_wp2_with (fail)
        go_at_call 68
        refine (cAtMost A0 A1 n0 c0 n1 c1 l0 l1 _ HL0.out HL1.out (by have := HL0.out; have := HL1.out; have := HL2.out; have := H80.out; have := H81.out; have := H82.out; omega) (by have := HL0.out; have := HL1.out; have := HL2.out; have := H80.out; have := H81.out; have := H82.out; omega) (HP0.out.ext (((((((((HD1.out).trans' HD2.out).trans' HD3.out).trans' HD4.out).trans' HD5.out).trans' HD6.out).trans' HD7.out).trans' HD8.out).trans' HD9.out)) (HP1.out.ext (((((((((HD1.out).trans' HD2.out).trans' HD3.out).trans' HD4.out).trans' HD5.out).trans' HD6.out).trans' HD7.out).trans' HD8.out).trans' HD9.out)) (both (listB_abs HB0.out) (listB_abs HB1.out)) (both (fits_size HF0.out) (fits_size HF1.out)) (setB_is HS0.out) (setB_is HS1.out)).mono ?_
        rintro e w10 ⟨rfl, hE⟩
        have HD10 := Lib.hid hE
        clear hE
        rw [← HVp.out]
        go_wp2_with (fail)
        go_at_call 68
        refine (cAtMost A1 A0 n1 c1 n0 c0 l1 l0 _ HL1.out HL0.out (by have := HL0.out; have := HL1.out; have := HL2.out; have := H80.out; have := H81.out; have := H82.out; omega) (by have := HL0.out; have := HL1.out; have := HL2.out; have := H80.out; have := H81.out; have := H82.out; omega) (HP1.out.ext ((((((((((HD1.out).trans' HD2.out).trans' HD3.out).trans' HD4.out).trans' HD5.out).trans' HD6.out).trans' HD7.out).trans' HD8.out).trans' HD9.out).trans' HD10.out)) (HP0.out.ext ((((((((((HD1.out).trans' HD2.out).trans' HD3.out).trans' HD4.out).trans' HD5.out).trans' HD6.out).trans' HD7.out).trans' HD8.out).trans' HD9.out).trans' HD10.out)) (both (listB_abs HB1.out) (listB_abs HB0.out)) (both (fits_size HF1.out) (fits_size HF0.out)) (setB_is HS1.out) (setB_is HS0.out)).mono ?_
        rintro e w11 ⟨rfl, hE⟩
        have HD11 := Lib.hid hE
        clear hE
        rw [← HVs.out]
        go_wp2_with (fail)
        go_at_call 25
        refine (sSumSame A0 A1 n0 c0 n1 c1 l0 l1 _ HL0.out HL1.out (by have := HL0.out; have := HL1.out; have := HL2.out; have := H80.out; have := H81.out; have := H82.out; omega) (by have := HL0.out; have := HL1.out; have := HL2.out; have := H80.out; have := H81.out; have := H82.out; omega) (HP0.out.ext (((((((((((HD1.out).trans' HD2.out).trans' HD3.out).trans' HD4.out).trans' HD5.out).trans' HD6.out).trans' HD7.out).trans' HD8.out).trans' HD9.out).trans' HD10.out).trans' HD11.out)) (HP1.out.ext (((((((((((HD1.out).trans' HD2.out).trans' HD3.out).trans' HD4.out).trans' HD5.out).trans' HD6.out).trans' HD7.out).trans' HD8.out).trans' HD9.out).trans' HD10.out).trans' HD11.out))).mono ?_
        rintro e w12 ⟨rfl, hE⟩
        have HD12 := Lib.hid (ext_q hE)
        clear hE
        rw [show decide (l0 = l1) = true from decide_eq_true HSM.out]
        go_wp2_with (fail)
        go_at_call 22
        refine (lSumTo A1 n1 c1 l1 _ HL1.out (by have := HL0.out; have := HL1.out; have := HL2.out; have := H80.out; have := H81.out; have := H82.out; omega) (HP1.out.ext ((((((((((((HD1.out).trans' HD2.out).trans' HD3.out).trans' HD4.out).trans' HD5.out).trans' HD6.out).trans' HD7.out).trans' HD8.out).trans' HD9.out).trans' HD10.out).trans' HD11.out).trans' HD12.out))).mono ?_
        rintro e w13 ⟨v13, rfl, ho13, hE⟩
        obtain ⟨B13, d13, hv, hp⟩ := pown_len ho13 HL1.out
        subst hv
        have HQ13 := Lib.hid hp; clear hp
        have HD13 := Lib.hid hE
        clear hE ho13
        go_wp2_with (fail)
        go_at_call 22
        refine (lSumTo A0 n0 c0 l0 _ HL0.out (by have := HL0.out; have := HL1.out; have := HL2.out; have := H80.out; have := H81.out; have := H82.out; omega) (HP0.out.ext (((((((((((((HD1.out).trans' HD2.out).trans' HD3.out).trans' HD4.out).trans' HD5.out).trans' HD6.out).trans' HD7.out).trans' HD8.out).trans' HD9.out).trans' HD10.out).trans' HD11.out).trans' HD12.out).trans' HD13.out))).mono ?_
        rintro e w14 ⟨v14, rfl, ho14, hE⟩
        obtain ⟨B14, d14, hv, hp⟩ := pown_len ho14 HL0.out
        subst hv
        have HQ14 := Lib.hid hp; clear hp
        have HD14 := Lib.hid hE
        clear hE ho14
        go_wp2_with (fail)
        go_at_call 55
        refine (iSubOf B13 B14 n1 d13 n0 d14 l1 l0 _ HL1.out HL0.out (by have := HL0.out; have := HL1.out; have := HL2.out; have := H80.out; have := H81.out; have := H82.out; omega) (by have := HL0.out; have := HL1.out; have := HL2.out; have := H80.out; have := H81.out; have := H82.out; omega) (HQ13.out.ext (HD14.out)) HQ14.out (both (fits_size HF1.out) (fits_size HF0.out)) (both (listB_abs HB1.out) (listB_abs HB0.out)) (setB_sorted HS1.out) (setB_is HS0.out)).mono ?_
        rintro e w15 ⟨r', had, hE, hc⟩
        rw [neg_lte (setB_is HS0.out) (setB_is HS1.out) had, ← HVp.out] at hc
        have HD15 := Lib.hid hE
        rcases hc with ⟨hc, _⟩ | ⟨_, v15, rfl, _⟩
        · cases hc
        clear hE had
        go_wp2_with (fail)
        go_at_call 68
        refine (cAtMost A0 A1 n0 c0 n1 c1 l0 l1 _ HL0.out HL1.out (by have := HL0.out; have := HL1.out; have := HL2.out; have := H80.out; have := H81.out; have := H82.out; omega) (by have := HL0.out; have := HL1.out; have := HL2.out; have := H80.out; have := H81.out; have := H82.out; omega) (HP0.out.ext (((((((((((((((HD1.out).trans' HD2.out).trans' HD3.out).trans' HD4.out).trans' HD5.out).trans' HD6.out).trans' HD7.out).trans' HD8.out).trans' HD9.out).trans' HD10.out).trans' HD11.out).trans' HD12.out).trans' HD13.out).trans' HD14.out).trans' HD15.out)) (HP1.out.ext (((((((((((((((HD1.out).trans' HD2.out).trans' HD3.out).trans' HD4.out).trans' HD5.out).trans' HD6.out).trans' HD7.out).trans' HD8.out).trans' HD9.out).trans' HD10.out).trans' HD11.out).trans' HD12.out).trans' HD13.out).trans' HD14.out).trans' HD15.out)) (both (listB_abs HB0.out) (listB_abs HB1.out)) (both (fits_size HF0.out) (fits_size HF1.out)) (setB_is HS0.out) (setB_is HS1.out)).mono ?_
        rintro e w16 ⟨rfl, hE⟩
        have HD16 := Lib.hid hE
        clear hE
        rw [← HVp.out]
        go_wp2_with (fail)
        go_at_call 24
        refine (sumAwake _).mono ?_
        rintro e w17 ⟨rfl, hE⟩
        have HD17 := Lib.hid hE
        clear hE
        go_wp2_with (fail)
        go_ret
        exact ⟨rfl, (((((((((((((((((HD1.out).trans' HD2.out).trans' HD3.out).trans' HD4.out).trans' HD5.out).trans' HD6.out).trans' HD7.out).trans' HD8.out).trans' HD9.out).trans' HD10.out).trans' HD11.out).trans' HD12.out).trans' HD13.out).trans' HD14.out).trans' HD15.out).trans' HD16.out).trans' HD17.out)⟩
    · obtain rfl : r = true := HTR.out rfl rfl
      go_wp2_with (fail)
      go_at_call 68
      refine (cAtMost A0 A0 n0 c0 n0 c0 l0 l0 _ HL0.out HL0.out (by have := HL0.out; have := HL1.out; have := HL2.out; have := H80.out; have := H81.out; have := H82.out; omega) (by have := HL0.out; have := HL1.out; have := HL2.out; have := H80.out; have := H81.out; have := H82.out; omega) (HP0.out.ext ((((((HD1.out).trans' HD2.out).trans' HD3.out).trans' HD4.out).trans' HD5.out).trans' HD6.out)) (HP0.out.ext ((((((HD1.out).trans' HD2.out).trans' HD3.out).trans' HD4.out).trans' HD5.out).trans' HD6.out)) (both (listB_abs HB0.out) (listB_abs HB0.out)) (both (fits_size HF0.out) (fits_size HF0.out)) (setB_is HS0.out) (setB_is HS0.out)).mono ?_
      rintro e w7 ⟨rfl, hE⟩
      have HD7 := Lib.hid hE
      clear hE
      rw [HSA.out]
      go_wp2_with (fail)
      go_at_call 68
      refine (cAtMost A0 A1 n0 c0 n1 c1 l0 l1 _ HL0.out HL1.out (by have := HL0.out; have := HL1.out; have := HL2.out; have := H80.out; have := H81.out; have := H82.out; omega) (by have := HL0.out; have := HL1.out; have := HL2.out; have := H80.out; have := H81.out; have := H82.out; omega) (HP0.out.ext (((((((HD1.out).trans' HD2.out).trans' HD3.out).trans' HD4.out).trans' HD5.out).trans' HD6.out).trans' HD7.out)) (HP1.out.ext (((((((HD1.out).trans' HD2.out).trans' HD3.out).trans' HD4.out).trans' HD5.out).trans' HD6.out).trans' HD7.out)) (both (listB_abs HB0.out) (listB_abs HB1.out)) (both (fits_size HF0.out) (fits_size HF1.out)) (setB_is HS0.out) (setB_is HS1.out)).mono ?_
      rintro e w8 ⟨rfl, hE⟩
      have HD8 := Lib.hid hE
      clear hE
      rw [← HVp.out]
      go_wp2_with (fail)
      go_at_call 68
      refine (cAtMost A1 A2 n1 c1 n2 c2 l1 l2 _ HL1.out HL2.out (by have := HL0.out; have := HL1.out; have := HL2.out; have := H80.out; have := H81.out; have := H82.out; omega) (by have := HL0.out; have := HL1.out; have := HL2.out; have := H80.out; have := H81.out; have := H82.out; omega) (HP1.out.ext ((((((((HD1.out).trans' HD2.out).trans' HD3.out).trans' HD4.out).trans' HD5.out).trans' HD6.out).trans' HD7.out).trans' HD8.out)) (HP2.out.ext ((((((((HD1.out).trans' HD2.out).trans' HD3.out).trans' HD4.out).trans' HD5.out).trans' HD6.out).trans' HD7.out).trans' HD8.out)) (both (listB_abs HB1.out) (listB_abs HB2.out)) (both (fits_size HF1.out) (fits_size HF2.out)) (setB_is HS1.out) (setB_is HS2.out)).mono ?_
      rintro e w9 ⟨rfl, hE⟩
      have HD9 := Lib.hid hE
      clear hE
      rw [← HVq.out]
      go_wp2_with (fail)
      go_at_call 68
      refine (cAtMost A0 A2 n0 c0 n2 c2 l0 l2 _ HL0.out HL2.out (by have := HL0.out; have := HL1.out; have := HL2.out; have := H80.out; have := H81.out; have := H82.out; omega) (by have := HL0.out; have := HL1.out; have := HL2.out; have := H80.out; have := H81.out; have := H82.out; omega) (HP0.out.ext (((((((((HD1.out).trans' HD2.out).trans' HD3.out).trans' HD4.out).trans' HD5.out).trans' HD6.out).trans' HD7.out).trans' HD8.out).trans' HD9.out)) (HP2.out.ext (((((((((HD1.out).trans' HD2.out).trans' HD3.out).trans' HD4.out).trans' HD5.out).trans' HD6.out).trans' HD7.out).trans' HD8.out).trans' HD9.out)) (both (listB_abs HB0.out) (listB_abs HB2.out)) (both (fits_size HF0.out) (fits_size HF2.out)) (setB_is HS0.out) (setB_is HS2.out)).mono ?_
      rintro e w10 ⟨rfl, hE⟩
      have HD10 := Lib.hid hE
      clear hE
      rw [← HVr.out]
      cases s
      · go_wp2_with (fail)
        go_at_call 68
        refine (cAtMost A0 A1 n0 c0 n1 c1 l0 l1 _ HL0.out HL1.out (by have := HL0.out; have := HL1.out; have := HL2.out; have := H80.out; have := H81.out; have := H82.out; omega) (by have := HL0.out; have := HL1.out; have := HL2.out; have := H80.out; have := H81.out; have := H82.out; omega) (HP0.out.ext ((((((((((HD1.out).trans' HD2.out).trans' HD3.out).trans' HD4.out).trans' HD5.out).trans' HD6.out).trans' HD7.out).trans' HD8.out).trans' HD9.out).trans' HD10.out)) (HP1.out.ext ((((((((((HD1.out).trans' HD2.out).trans' HD3.out).trans' HD4.out).trans' HD5.out).trans' HD6.out).trans' HD7.out).trans' HD8.out).trans' HD9.out).trans' HD10.out)) (both (listB_abs HB0.out) (listB_abs HB1.out)) (both (fits_size HF0.out) (fits_size HF1.out)) (setB_is HS0.out) (setB_is HS1.out)).mono ?_
        rintro e w11 ⟨rfl, hE⟩
        have HD11 := Lib.hid hE
        clear hE
        rw [← HVp.out]
        go_wp2_with (fail)
        go_at_call 68
        refine (cAtMost A1 A0 n1 c1 n0 c0 l1 l0 _ HL1.out HL0.out (by have := HL0.out; have := HL1.out; have := HL2.out; have := H80.out; have := H81.out; have := H82.out; omega) (by have := HL0.out; have := HL1.out; have := HL2.out; have := H80.out; have := H81.out; have := H82.out; omega) (HP1.out.ext (((((((((((HD1.out).trans' HD2.out).trans' HD3.out).trans' HD4.out).trans' HD5.out).trans' HD6.out).trans' HD7.out).trans' HD8.out).trans' HD9.out).trans' HD10.out).trans' HD11.out)) (HP0.out.ext (((((((((((HD1.out).trans' HD2.out).trans' HD3.out).trans' HD4.out).trans' HD5.out).trans' HD6.out).trans' HD7.out).trans' HD8.out).trans' HD9.out).trans' HD10.out).trans' HD11.out)) (both (listB_abs HB1.out) (listB_abs HB0.out)) (both (fits_size HF1.out) (fits_size HF0.out)) (setB_is HS1.out) (setB_is HS0.out)).mono ?_
        rintro e w12 ⟨rfl, hE⟩
        have HD12 := Lib.hid hE
        clear hE
        rw [← HVs.out]
        go_wp2_with (fail)
        go_at_call 22
        refine (lSumTo A1 n1 c1 l1 _ HL1.out (by have := HL0.out; have := HL1.out; have := HL2.out; have := H80.out; have := H81.out; have := H82.out; omega) (HP1.out.ext ((((((((((((HD1.out).trans' HD2.out).trans' HD3.out).trans' HD4.out).trans' HD5.out).trans' HD6.out).trans' HD7.out).trans' HD8.out).trans' HD9.out).trans' HD10.out).trans' HD11.out).trans' HD12.out))).mono ?_
        rintro e w13 ⟨v13, rfl, ho13, hE⟩
        obtain ⟨B13, d13, hv, hp⟩ := pown_len ho13 HL1.out
        subst hv
        have HQ13 := Lib.hid hp; clear hp
        have HD13 := Lib.hid hE
        clear hE ho13
        go_wp2_with (fail)
        go_at_call 22
        refine (lSumTo A0 n0 c0 l0 _ HL0.out (by have := HL0.out; have := HL1.out; have := HL2.out; have := H80.out; have := H81.out; have := H82.out; omega) (HP0.out.ext (((((((((((((HD1.out).trans' HD2.out).trans' HD3.out).trans' HD4.out).trans' HD5.out).trans' HD6.out).trans' HD7.out).trans' HD8.out).trans' HD9.out).trans' HD10.out).trans' HD11.out).trans' HD12.out).trans' HD13.out))).mono ?_
        rintro e w14 ⟨v14, rfl, ho14, hE⟩
        obtain ⟨B14, d14, hv, hp⟩ := pown_len ho14 HL0.out
        subst hv
        have HQ14 := Lib.hid hp; clear hp
        have HD14 := Lib.hid hE
        clear hE ho14
        go_wp2_with (fail)
        go_at_call 55
        refine (iSubOf B13 B14 n1 d13 n0 d14 l1 l0 _ HL1.out HL0.out (by have := HL0.out; have := HL1.out; have := HL2.out; have := H80.out; have := H81.out; have := H82.out; omega) (by have := HL0.out; have := HL1.out; have := HL2.out; have := H80.out; have := H81.out; have := H82.out; omega) (HQ13.out.ext (HD14.out)) HQ14.out (both (fits_size HF1.out) (fits_size HF0.out)) (both (listB_abs HB1.out) (listB_abs HB0.out)) (setB_sorted HS1.out) (setB_is HS0.out)).mono ?_
        rintro e w15 ⟨r', had, hE, hc⟩
        rw [neg_lte (setB_is HS0.out) (setB_is HS1.out) had, ← HVp.out] at hc
        have HD15 := Lib.hid hE
        rcases hc with ⟨hc, _⟩ | ⟨_, v15, rfl, _⟩
        · cases hc
        clear hE had
        go_wp2_with (fail)
        go_at_call 68
        refine (cAtMost A0 A1 n0 c0 n1 c1 l0 l1 _ HL0.out HL1.out (by have := HL0.out; have := HL1.out; have := HL2.out; have := H80.out; have := H81.out; have := H82.out; omega) (by have := HL0.out; have := HL1.out; have := HL2.out; have := H80.out; have := H81.out; have := H82.out; omega) (HP0.out.ext (((((((((((((((HD1.out).trans' HD2.out).trans' HD3.out).trans' HD4.out).trans' HD5.out).trans' HD6.out).trans' HD7.out).trans' HD8.out).trans' HD9.out).trans' HD10.out).trans' HD11.out).trans' HD12.out).trans' HD13.out).trans' HD14.out).trans' HD15.out)) (HP1.out.ext (((((((((((((((HD1.out).trans' HD2.out).trans' HD3.out).trans' HD4.out).trans' HD5.out).trans' HD6.out).trans' HD7.out).trans' HD8.out).trans' HD9.out).trans' HD10.out).trans' HD11.out).trans' HD12.out).trans' HD13.out).trans' HD14.out).trans' HD15.out)) (both (listB_abs HB0.out) (listB_abs HB1.out)) (both (fits_size HF0.out) (fits_size HF1.out)) (setB_is HS0.out) (setB_is HS1.out)).mono ?_
        rintro e w16 ⟨rfl, hE⟩
        have HD16 := Lib.hid hE
        clear hE
        rw [← HVp.out]
        go_wp2_with (fail)
        go_at_call 24
        refine (sumAwake _).mono ?_
        rintro e w17 ⟨rfl, hE⟩
        have HD17 := Lib.hid hE
        clear hE
        go_wp2_with (fail)
        go_ret
        exact ⟨rfl, (((((((((((((((((HD1.out).trans' HD2.out).trans' HD3.out).trans' HD4.out).trans' HD5.out).trans' HD6.out).trans' HD7.out).trans' HD8.out).trans' HD9.out).trans' HD10.out).trans' HD11.out).trans' HD12.out).trans' HD13.out).trans' HD14.out).trans' HD15.out).trans' HD16.out).trans' HD17.out)⟩
      · have HSM := Lib.hid (show l0 = l1 from HAN.out (by first | rfl | trivial) (by first | rfl | trivial))
        go_wp2_with (fail)
        go_at_call 68
        refine (cAtMost A0 A1 n0 c0 n1 c1 l0 l1 _ HL0.out HL1.out (by have := HL0.out; have := HL1.out; have := HL2.out; have := H80.out; have := H81.out; have := H82.out; omega) (by have := HL0.out; have := HL1.out; have := HL2.out; have := H80.out; have := H81.out; have := H82.out; omega) (HP0.out.ext ((((((((((HD1.out).trans' HD2.out).trans' HD3.out).trans' HD4.out).trans' HD5.out).trans' HD6.out).trans' HD7.out).trans' HD8.out).trans' HD9.out).trans' HD10.out)) (HP1.out.ext ((((((((((HD1.out).trans' HD2.out).trans' HD3.out).trans' HD4.out).trans' HD5.out).trans' HD6.out).trans' HD7.out).trans' HD8.out).trans' HD9.out).trans' HD10.out)) (both (listB_abs HB0.out) (listB_abs HB1.out)) (both (fits_size HF0.out) (fits_size HF1.out)) (setB_is HS0.out) (setB_is HS1.out)).mono ?_
        rintro e w11 ⟨rfl, hE⟩
        have HD11 := Lib.hid hE
        clear hE
        rw [← HVp.out]
        go_wp2_with (fail)
        go_at_call 68
        refine (cAtMost A1 A0 n1 c1 n0 c0 l1 l0 _ HL1.out HL0.out (by have := HL0.out; have := HL1.out; have := HL2.out; have := H80.out; have := H81.out; have := H82.out; omega) (by have := HL0.out; have := HL1.out; have := HL2.out; have := H80.out; have := H81.out; have := H82.out; omega) (HP1.out.ext (((((((((((HD1.out).trans' HD2.out).trans' HD3.out).trans' HD4.out).trans' HD5.out).trans' HD6.out).trans' HD7.out).trans' HD8.out).trans' HD9.out).trans' HD10.out).trans' HD11.out)) (HP0.out.ext (((((((((((HD1.out).trans' HD2.out).trans' HD3.out).trans' HD4.out).trans' HD5.out).trans' HD6.out).trans' HD7.out).trans' HD8.out).trans' HD9.out).trans' HD10.out).trans' HD11.out)) (both (listB_abs HB1.out) (listB_abs HB0.out)) (both (fits_size HF1.out) (fits_size HF0.out)) (setB_is HS1.out) (setB_is HS0.out)).mono ?_
        rintro e w12 ⟨rfl, hE⟩
        have HD12 := Lib.hid hE
        clear hE
        rw [← HVs.out]
        go_wp2_with (fail)
        go_at_call 25
        refine (sSumSame A0 A1 n0 c0 n1 c1 l0 l1 _ HL0.out HL1.out (by have := HL0.out; have := HL1.out; have := HL2.out; have := H80.out; have := H81.out; have := H82.out; omega) (by have := HL0.out; have := HL1.out; have := HL2.out; have := H80.out; have := H81.out; have := H82.out; omega) (HP0.out.ext ((((((((((((HD1.out).trans' HD2.out).trans' HD3.out).trans' HD4.out).trans' HD5.out).trans' HD6.out).trans' HD7.out).trans' HD8.out).trans' HD9.out).trans' HD10.out).trans' HD11.out).trans' HD12.out)) (HP1.out.ext ((((((((((((HD1.out).trans' HD2.out).trans' HD3.out).trans' HD4.out).trans' HD5.out).trans' HD6.out).trans' HD7.out).trans' HD8.out).trans' HD9.out).trans' HD10.out).trans' HD11.out).trans' HD12.out))).mono ?_
        rintro e w13 ⟨rfl, hE⟩
        have HD13 := Lib.hid (ext_q hE)
        clear hE
        rw [show decide (l0 = l1) = true from decide_eq_true HSM.out]
        go_wp2_with (fail)
        go_at_call 22
        refine (lSumTo A1 n1 c1 l1 _ HL1.out (by have := HL0.out; have := HL1.out; have := HL2.out; have := H80.out; have := H81.out; have := H82.out; omega) (HP1.out.ext (((((((((((((HD1.out).trans' HD2.out).trans' HD3.out).trans' HD4.out).trans' HD5.out).trans' HD6.out).trans' HD7.out).trans' HD8.out).trans' HD9.out).trans' HD10.out).trans' HD11.out).trans' HD12.out).trans' HD13.out))).mono ?_
        rintro e w14 ⟨v14, rfl, ho14, hE⟩
        obtain ⟨B14, d14, hv, hp⟩ := pown_len ho14 HL1.out
        subst hv
        have HQ14 := Lib.hid hp; clear hp
        have HD14 := Lib.hid hE
        clear hE ho14
        go_wp2_with (fail)
        go_at_call 22
        refine (lSumTo A0 n0 c0 l0 _ HL0.out (by have := HL0.out; have := HL1.out; have := HL2.out; have := H80.out; have := H81.out; have := H82.out; omega) (HP0.out.ext ((((((((((((((HD1.out).trans' HD2.out).trans' HD3.out).trans' HD4.out).trans' HD5.out).trans' HD6.out).trans' HD7.out).trans' HD8.out).trans' HD9.out).trans' HD10.out).trans' HD11.out).trans' HD12.out).trans' HD13.out).trans' HD14.out))).mono ?_
        rintro e w15 ⟨v15, rfl, ho15, hE⟩
        obtain ⟨B15, d15, hv, hp⟩ := pown_len ho15 HL0.out
        subst hv
        have HQ15 := Lib.hid hp; clear hp
        have HD15 := Lib.hid hE
        clear hE ho15
        go_wp2_with (fail)
        go_at_call 55
        refine (iSubOf B14 B15 n1 d14 n0 d15 l1 l0 _ HL1.out HL0.out (by have := HL0.out; have := HL1.out; have := HL2.out; have := H80.out; have := H81.out; have := H82.out; omega) (by have := HL0.out; have := HL1.out; have := HL2.out; have := H80.out; have := H81.out; have := H82.out; omega) (HQ14.out.ext (HD15.out)) HQ15.out (both (fits_size HF1.out) (fits_size HF0.out)) (both (listB_abs HB1.out) (listB_abs HB0.out)) (setB_sorted HS1.out) (setB_is HS0.out)).mono ?_
        rintro e w16 ⟨r', had, hE, hc⟩
        rw [neg_lte (setB_is HS0.out) (setB_is HS1.out) had, ← HVp.out] at hc
        have HD16 := Lib.hid hE
        rcases hc with ⟨hc, _⟩ | ⟨_, v16, rfl, _⟩
        · cases hc
        clear hE had
        go_wp2_with (fail)
        go_at_call 68
        refine (cAtMost A0 A1 n0 c0 n1 c1 l0 l1 _ HL0.out HL1.out (by have := HL0.out; have := HL1.out; have := HL2.out; have := H80.out; have := H81.out; have := H82.out; omega) (by have := HL0.out; have := HL1.out; have := HL2.out; have := H80.out; have := H81.out; have := H82.out; omega) (HP0.out.ext ((((((((((((((((HD1.out).trans' HD2.out).trans' HD3.out).trans' HD4.out).trans' HD5.out).trans' HD6.out).trans' HD7.out).trans' HD8.out).trans' HD9.out).trans' HD10.out).trans' HD11.out).trans' HD12.out).trans' HD13.out).trans' HD14.out).trans' HD15.out).trans' HD16.out)) (HP1.out.ext ((((((((((((((((HD1.out).trans' HD2.out).trans' HD3.out).trans' HD4.out).trans' HD5.out).trans' HD6.out).trans' HD7.out).trans' HD8.out).trans' HD9.out).trans' HD10.out).trans' HD11.out).trans' HD12.out).trans' HD13.out).trans' HD14.out).trans' HD15.out).trans' HD16.out)) (both (listB_abs HB0.out) (listB_abs HB1.out)) (both (fits_size HF0.out) (fits_size HF1.out)) (setB_is HS0.out) (setB_is HS1.out)).mono ?_
        rintro e w17 ⟨rfl, hE⟩
        have HD17 := Lib.hid hE
        clear hE
        rw [← HVp.out]
        go_wp2_with (fail)
        go_at_call 24
        refine (sumAwake _).mono ?_
        rintro e w18 ⟨rfl, hE⟩
        have HD18 := Lib.hid hE
        clear hE
        go_wp2_with (fail)
        go_ret
        exact ⟨rfl, ((((((((((((((((((HD1.out).trans' HD2.out).trans' HD3.out).trans' HD4.out).trans' HD5.out).trans' HD6.out).trans' HD7.out).trans' HD8.out).trans' HD9.out).trans' HD10.out).trans' HD11.out).trans' HD12.out).trans' HD13.out).trans' HD14.out).trans' HD15.out).trans' HD16.out).trans' HD17.out).trans' HD18.out)⟩
end Go.Proofs.YtagfbefgcijegaaGreatDoor
