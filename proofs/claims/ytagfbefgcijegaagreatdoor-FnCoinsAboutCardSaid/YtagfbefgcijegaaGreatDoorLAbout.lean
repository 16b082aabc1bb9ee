/-
  The walk of the law FnCoinsAbout: it returns true.
-/
import Derived.Test.YtagfbefgcijegaaGreatDoorLKit
import Derived.Test.YtagfbefgcijegaaGreatDoorSumAll
import Derived.Test.YtagfbefgcijegaaGreatDoorSet
import Derived.Test.YtagfbefgcijegaaGreatDoorNew2
namespace Go.Proofs.YtagfbefgcijegaaGreatDoor
open Go Go.RowKit

set_option maxRecDepth 100000 in
set_option maxHeartbeats 4000000 in
theorem lawAbout (A0 : Option Addr) (n0 c0 : Nat) (l0 : List (ByteArray × Int)) (w : World) (hl0 : l0.length = n0) (hn0 : n0 ≤ 9223372036854775807) (h0 : PlainAt w A0 l0) :
    Calls Tryz.prog 10 #[.slice A0 n0 c0] w (RetE (.bool true) w) := by
  have HL0 := Lib.hid hl0; have HN0 := Lib.hid hn0; have HP0 := Lib.hid h0
  clear hl0 hn0 h0
  go_enter Tryz.func10, Tryz.ntmps10
  go_wp2_with (fail)
  go_at_call 19
  refine (zFits2 A0 n0 c0 l0 _ HL0.out HN0.out (HP0.out.ext (Ext.refl _))).mono ?_
  rintro e w1 ⟨r, rfl, hf, hE⟩
  have HD1 := Lib.hid hE
  clear hE
  cases r
  · go_wp2_with (fail)
    go_ret
    exact ⟨rfl, (HD1.out)⟩
  have HF0 := Lib.hid (hf rfl); clear hf
  go_wp2_with (fail)
  go_at_call 20
  refine (sIsSumList A0 n0 c0 l0 _ HL0.out HF0.out (HP0.out.ext (HD1.out))).mono ?_
  rintro e w2 ⟨rfl, hE⟩
  have HD2 := Lib.hid hE
  clear hE
  cases hb2 : listB l0
  · go_wp2_with (fail)
    go_ret
    exact ⟨rfl, ((HD1.out).trans' HD2.out)⟩
  have HB0 := Lib.hid hb2; clear hb2
  go_wp2_with (fail)
  have H80 := Lib.hid (show n0 ≤ 8 from by have := listB_len HB0.out; have := HL0.out; omega)
  go_at_call 46
  refine (sAllZero A0 n0 c0 l0 _ HL0.out (by have := HL0.out; have := H80.out; omega) (HP0.out.ext ((HD1.out).trans' HD2.out))).mono ?_
  rintro e w3 ⟨rfl, hE⟩
  have HD3 := Lib.hid hE
  clear hE
  obtain ⟨b1, hb1⟩ : ∃ b, b = isB l0 := ⟨_, rfl⟩
  have HVb1 := Lib.hid hb1
  obtain ⟨b2, hb2⟩ : ∃ b, b = zeroB l0 := ⟨_, rfl⟩
  have HVb2 := Lib.hid hb2
  obtain ⟨b4, hb4⟩ : ∃ b, b = posB l0 := ⟨_, rfl⟩
  have HVb4 := Lib.hid hb4
  obtain ⟨b5, hb5⟩ : ∃ b, b = negB l0 := ⟨_, rfl⟩
  have HVb5 := Lib.hid hb5
  rw [show (l0.all fun x => decide (x.2 = 0)) = b2 from hb2.symm]
  clear hb1 hb2 hb4 hb5
  by_cases h0 : n0 = 0
  · subst h0
    obtain rfl : b4 = false := by rw [HVb4.out]; obtain rfl : l0 = [] := List.length_eq_zero_iff.1 HL0.out; rfl
    have H3 := Lib.hid (show decide (l0.length = 0) = true by rw [HL0.out]; rfl)
    go_wp2_with (fail)
    go_at_call 22
    refine (lSumTo A0 0 c0 l0 _ HL0.out (by have := HL0.out; have := H80.out; omega) (HP0.out.ext (((HD1.out).trans' HD2.out).trans' HD3.out))).mono ?_
    rintro e w4 ⟨v4, rfl, ho4, hE⟩
    obtain ⟨B4, d4, hv, hp⟩ := pown_len ho4 HL0.out
    subst hv
    have HQ4 := Lib.hid hp; clear hp
    have HD4 := Lib.hid hE
    clear hE ho4
    go_wp2_with (fail)
    go_at_call 49
    refine (iAbout B4 0 d4 l0 _ HL0.out (by have := HL0.out; have := H80.out; omega) HQ4.out (listB_max HB0.out) (fits_size HF0.out)).mono ?_
    rintro e w5 ⟨o, ho, rfl, hE⟩
    have HD5 := Lib.hid hE
    rw [isNone_isB ho, ← HVb1.out, ← HVb2.out, ← HVb4.out, ← HVb5.out, H3.out]
    clear hE ho
    go_wp2_with (fail)
    go_at_call 41
    refine (sIsSum A0 0 c0 l0 _ HL0.out HF0.out (HP0.out.ext (((((HD1.out).trans' HD2.out).trans' HD3.out).trans' HD4.out).trans' HD5.out))).mono ?_
    rintro e w6 ⟨rfl, hE⟩
    have HD6 := Lib.hid hE
    clear hE
    rw [← HVb1.out]
    go_wp2_with (fail)
    go_at_call 50
    refine (sSumNegative A0 0 c0 l0 _ HL0.out (by have := HL0.out; have := H80.out; omega) (HP0.out.ext ((((((HD1.out).trans' HD2.out).trans' HD3.out).trans' HD4.out).trans' HD5.out).trans' HD6.out))).mono ?_
    rintro e w7 ⟨rfl, hE⟩
    have HD7 := Lib.hid hE
    clear hE
    rw [← HVb5.out]
    go_wp2_with (fail)
    go_at_call 24
    refine (sumAwake _).mono ?_
    rintro e w8 ⟨rfl, hE⟩
    have HD8 := Lib.hid hE
    clear hE
    go_wp2_with (fail)
    go_ret
    exact ⟨rfl, ((((((((HD1.out).trans' HD2.out).trans' HD3.out).trans' HD4.out).trans' HD5.out).trans' HD6.out).trans' HD7.out).trans' HD8.out)⟩
  · have hd0 : ((n0 : Int) == 0) = false := by simp; omega
    have d0 : 0 < n0 := by omega
    have H3 := Lib.hid (show decide (l0.length = 0) = false by rw [HL0.out]; simpa using h0)
    clear h0
    go_wp2_with (fail)
    go_at_call 46
    refine (sAllPos A0 n0 c0 l0 _ HL0.out (by have := HL0.out; have := H80.out; omega) (HP0.out.ext (((HD1.out).trans' HD2.out).trans' HD3.out))).mono ?_
    rintro e w4 ⟨rfl, hE⟩
    have HD4 := Lib.hid hE
    clear hE
    rw [show (l0.all fun x => decide (0 < x.2)) = b4 by rw [HVb4.out]; unfold posB; cases l0 with | nil => exact absurd HL0.out.symm (by simp at hd0; omega) | cons a t => rfl]
    go_wp2_with (fail)
    go_at_call 22
    refine (lSumTo A0 n0 c0 l0 _ HL0.out (by have := HL0.out; have := H80.out; omega) (HP0.out.ext ((((HD1.out).trans' HD2.out).trans' HD3.out).trans' HD4.out))).mono ?_
    rintro e w5 ⟨v5, rfl, ho5, hE⟩
    obtain ⟨B5, d5, hv, hp⟩ := pown_len ho5 HL0.out
    subst hv
    have HQ5 := Lib.hid hp; clear hp
    have HD5 := Lib.hid hE
    clear hE ho5
    go_wp2_with (fail)
    go_at_call 49
    refine (iAbout B5 n0 d5 l0 _ HL0.out (by have := HL0.out; have := H80.out; omega) HQ5.out (listB_max HB0.out) (fits_size HF0.out)).mono ?_
    rintro e w6 ⟨o, ho, rfl, hE⟩
    have HD6 := Lib.hid hE
    rw [isNone_isB ho, ← HVb1.out, ← HVb2.out, ← HVb4.out, ← HVb5.out, H3.out]
    clear hE ho
    go_wp2_with (fail)
    go_at_call 41
    refine (sIsSum A0 n0 c0 l0 _ HL0.out HF0.out (HP0.out.ext ((((((HD1.out).trans' HD2.out).trans' HD3.out).trans' HD4.out).trans' HD5.out).trans' HD6.out))).mono ?_
    rintro e w7 ⟨rfl, hE⟩
    have HD7 := Lib.hid hE
    clear hE
    rw [← HVb1.out]
    go_wp2_with (fail)
    go_at_call 50
    refine (sSumNegative A0 n0 c0 l0 _ HL0.out (by have := HL0.out; have := H80.out; omega) (HP0.out.ext (((((((HD1.out).trans' HD2.out).trans' HD3.out).trans' HD4.out).trans' HD5.out).trans' HD6.out).trans' HD7.out))).mono ?_
    rintro e w8 ⟨rfl, hE⟩
    have HD8 := Lib.hid hE
    clear hE
    rw [← HVb5.out]
    go_wp2_with (fail)
    go_at_call 24
    refine (sumAwake _).mono ?_
    rintro e w9 ⟨rfl, hE⟩
    have HD9 := Lib.hid hE
    clear hE
    go_wp2_with (fail)
    go_ret
    exact ⟨rfl, (((((((((HD1.out).trans' HD2.out).trans' HD3.out).trans' HD4.out).trans' HD5.out).trans' HD6.out).trans' HD7.out).trans' HD8.out).trans' HD9.out)⟩
end Go.Proofs.YtagfbefgcijegaaGreatDoor
