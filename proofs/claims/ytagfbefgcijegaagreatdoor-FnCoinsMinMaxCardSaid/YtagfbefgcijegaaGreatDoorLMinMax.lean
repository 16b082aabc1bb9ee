/-
  The walk of the law FnCoinsMinMax: it returns true.
-/
import Derived.Test.YtagfbefgcijegaaGreatDoorGE
import Derived.Test.YtagfbefgcijegaaGreatDoorGK
import Derived.Test.YtagfbefgcijegaaGreatDoorGI
namespace Go.Proofs.YtagfbefgcijegaaGreatDoor
open Go Go.RowKit

theorem isB_pos {r : List (ByteArray × Int)} (h : isB r = true) : ∀ x ∈ r, 0 < x.2 := fun x hx => by unfold isB at h; rw [decide_eq_true_iff] at h; exact (h.1 x hx).2
theorem set_join {f : Int → Int → Int} {a b r r' : List (ByteArray × Int)} (h : isB r = true ∧ ∀ s, totalP s r = f (totalP s a) (totalP s b))
    (h' : (r'.Pairwise fun a b => keyLt a.1 b.1 = true) ∧ (∀ y ∈ r', y.2 ≠ 0) ∧ r'.length ≤ a.length + b.length ∧ ∀ s, totalP s r' = f (totalP s a) (totalP s b)) : r = r' :=
  totals_unique (isB_strict h.1) (fun y hy => by have := isB_pos h.1 y hy; omega) h'.1 h'.2.1 fun s => by rw [h.2, h'.2.2.2]

set_option maxRecDepth 100000 in
set_option maxHeartbeats 4000000 in
theorem lawMinMax (A0 : Option Addr) (n0 c0 : Nat) (l0 : List (ByteArray × Int)) (A1 : Option Addr) (n1 c1 : Nat) (l1 : List (ByteArray × Int)) (w : World) (hl0 : l0.length = n0) (hn0 : n0 ≤ 9223372036854775807) (h0 : PlainAt w A0 l0) (hl1 : l1.length = n1) (hn1 : n1 ≤ 9223372036854775807) (h1 : PlainAt w A1 l1) :
    Calls Tryz.prog 14 #[.slice A0 n0 c0, .slice A1 n1 c1] w (RetE (.bool true) w) := by
  have HL0 := Lib.hid hl0; have HN0 := Lib.hid hn0; have HP0 := Lib.hid h0
  have HL1 := Lib.hid hl1; have HN1 := Lib.hid hn1; have HP1 := Lib.hid h1
  clear hl0 hn0 h0 hl1 hn1 h1
  go_enter Tryz.func14, Tryz.ntmps14
  go_wp2_with (fail)
  go_at_call 19
  refine (zFits2 A0 n0 c0 l0 _ HL0.out HN0.out (HP0.out.ext (Ext.refl _))).mono ?_
  rintro e w1 ⟨r, rfl, hf, hE⟩
  have HD1 := Lib.hid hE
  clear hE
  cases r
  · go_wp2_with (fail)
    go_ret
    exact ⟨rfl, (HD1.out)⟩
  have HF0 := Lib.hid (hf rfl); clear hf
  go_wp2_with (fail)
  go_at_call 19
  refine (zFits2 A1 n1 c1 l1 _ HL1.out HN1.out (HP1.out.ext (HD1.out))).mono ?_
  rintro e w2 ⟨r, rfl, hf, hE⟩
  have HD2 := Lib.hid hE
  clear hE
  cases r
  · go_wp2_with (fail)
    go_ret
    exact ⟨rfl, ((HD1.out).trans' HD2.out)⟩
  have HF1 := Lib.hid (hf rfl); clear hf
  go_wp2_with (fail)
  go_at_call 28
  refine (sIsSumSet A0 n0 c0 l0 _ HL0.out HF0.out (HP0.out.ext ((HD1.out).trans' HD2.out))).mono ?_
  rintro e w3 ⟨rfl, hE⟩
  have HD3 := Lib.hid hE
  clear hE
  cases hb3 : setB l0
  · go_wp2_with (fail)
    go_ret
    exact ⟨rfl, (((HD1.out).trans' HD2.out).trans' HD3.out)⟩
  have HS0 := Lib.hid hb3; clear hb3
  go_wp2_with (fail)
  have HB0 := Lib.hid (setB_list HS0.out)
  have H80 := Lib.hid (show n0 ≤ 8 from by have := listB_len HB0.out; have := HL0.out; omega)
  go_at_call 28
  refine (sIsSumSet A1 n1 c1 l1 _ HL1.out HF1.out (HP1.out.ext (((HD1.out).trans' HD2.out).trans' HD3.out))).mono ?_
  rintro e w4 ⟨rfl, hE⟩
  have HD4 := Lib.hid hE
  clear hE
  cases hb4 : setB l1
  · go_wp2_with (fail)
    go_ret
    exact ⟨rfl, ((((HD1.out).trans' HD2.out).trans' HD3.out).trans' HD4.out)⟩
  have HS1 := Lib.hid hb4; clear hb4
  go_wp2_with (fail)
  have HB1 := Lib.hid (setB_list HS1.out)
  have H81 := Lib.hid (show n1 ≤ 8 from by have := listB_len HB1.out; have := HL1.out; omega)
  go_at_call 22
  refine (lSumTo A0 n0 c0 l0 _ HL0.out (by have := HL0.out; have := HL1.out; have := H80.out; have := H81.out; omega) (HP0.out.ext ((((HD1.out).trans' HD2.out).trans' HD3.out).trans' HD4.out))).mono ?_
  rintro e w5 ⟨v5, rfl, ho5, hE⟩
  obtain ⟨B5, d5, hv, hp⟩ := pown_len ho5 HL0.out
  subst hv
  have HQ5 := Lib.hid hp; clear hp
  have HD5 := Lib.hid hE
  clear hE ho5
  go_wp2_with (fail)
  go_at_call 22
  refine (lSumTo A1 n1 c1 l1 _ HL1.out (by have := HL0.out; have := HL1.out; have := H80.out; have := H81.out; omega) (HP1.out.ext (((((HD1.out).trans' HD2.out).trans' HD3.out).trans' HD4.out).trans' HD5.out))).mono ?_
  rintro e w6 ⟨v6, rfl, ho6, hE⟩
  obtain ⟨B6, d6, hv, hp⟩ := pown_len ho6 HL1.out
  subst hv
  have HQ6 := Lib.hid hp; clear hp
  have HD6 := Lib.hid hE
  clear hE ho6
  go_wp2_with (fail)
  go_at_call 56
  refine (iMinOf B5 B6 n0 d5 n1 d6 l0 l1 _ HL0.out HL1.out (by have := HL0.out; have := HL1.out; have := H80.out; have := H81.out; omega) (by have := HL0.out; have := HL1.out; have := H80.out; have := H81.out; omega) (HQ5.out.ext (HD6.out)) HQ6.out (both (listB_abs HB0.out) (listB_abs HB1.out)) (both (fits_size HF0.out) (fits_size HF1.out)) (setB_is HS0.out) (setB_is HS1.out)).mono ?_
  rintro e w7 ⟨v7, r7, rfl, ho7, hE, hb, ht, hlen, hmem⟩
  obtain ⟨B7, d7, hv, hp⟩ := pown_len ho7 rfl
  subst hv
  have HQ7 := Lib.hid hp; clear hp
  have HD7 := Lib.hid hE
  have HM7 := Lib.hid (And.intro hb ht); have HMM7 := Lib.hid hmem
  have HX7 := Lib.hid (show r7.length ≤ n0 + n1 from by have := hlen; have := HL0.out; have := HL1.out; omega)
  clear hE ho7 hb ht hlen hmem
  go_wp2_with (fail)
  go_at_call 22
  refine (lSumTo A0 n0 c0 l0 _ HL0.out (by have := HL0.out; have := HL1.out; have := H80.out; have := H81.out; have := HX7.out; omega) (HP0.out.ext (((((((HD1.out).trans' HD2.out).trans' HD3.out).trans' HD4.out).trans' HD5.out).trans' HD6.out).trans' HD7.out))).mono ?_
  rintro e w8 ⟨v8, rfl, ho8, hE⟩
  obtain ⟨B8, d8, hv, hp⟩ := pown_len ho8 HL0.out
  subst hv
  have HQ8 := Lib.hid hp; clear hp
  have HD8 := Lib.hid hE
  clear hE ho8
  go_wp2_with (fail)
  go_at_call 22
  refine (lSumTo A1 n1 c1 l1 _ HL1.out (by have := HL0.out; have := HL1.out; have := H80.out; have := H81.out; have := HX7.out; omega) (HP1.out.ext ((((((((HD1.out).trans' HD2.out).trans' HD3.out).trans' HD4.out).trans' HD5.out).trans' HD6.out).trans' HD7.out).trans' HD8.out))).mono ?_
  rintro e w9 ⟨v9, rfl, ho9, hE⟩
  obtain ⟨B9, d9, hv, hp⟩ := pown_len ho9 HL1.out
  subst hv
  have HQ9 := Lib.hid hp; clear hp
  have HD9 := Lib.hid hE
  clear hE ho9
  go_wp2_with (fail)
  go_at_call 57
  refine (iMaxOf B8 B9 n0 d8 n1 d9 l0 l1 _ HL0.out HL1.out (by have := HL0.out; have := HL1.out; have := H80.out; have := H81.out; have := HX7.out; omega) (by have := HL0.out; have := HL1.out; have := H80.out; have := H81.out; have := HX7.out; omega) (HQ8.out.ext (HD9.out)) HQ9.out (both (listB_abs HB0.out) (listB_abs HB1.out)) (both (fits_size HF0.out) (fits_size HF1.out)) (setB_is HS0.out) (setB_is HS1.out)).mono ?_
  rintro e w10 ⟨v10, r10, rfl, ho10, hE, hb, ht, hlen, hmem⟩
  obtain ⟨B10, d10, hv, hp⟩ := pown_len ho10 rfl
  subst hv
  have HQ10 := Lib.hid hp; clear hp
  have HD10 := Lib.hid hE
  have HM10 := Lib.hid (And.intro hb ht); have HMM10 := Lib.hid hmem
  have HX10 := Lib.hid (show r10.length ≤ n0 + n1 from by have := hlen; have := HL0.out; have := HL1.out; omega)
  clear hE ho10 hb ht hlen hmem
  go_wp2_with (fail)
  go_at_call 26
  refine (lSumFrom B7 r7.length d7 r7 _ rfl (by have := HL0.out; have := HL1.out; have := H80.out; have := H81.out; have := HX7.out; have := HX10.out; omega) (HQ7.out.ext (((HD8.out).trans' HD9.out).trans' HD10.out))).mono ?_
  rintro e w11 ⟨v11, rfl, ho11, hE⟩
  obtain ⟨B11, d11, hv, hp⟩ := pown_len ho11 rfl
  subst hv
  have HQ11 := Lib.hid hp; clear hp
  have HD11 := Lib.hid hE
  clear hE ho11
  go_wp2_with (fail)
  go_at_call 58
  refine (sSumLess A0 A1 n0 c0 n1 c1 l0 l1 _ HL0.out HL1.out (by have := HL0.out; have := HL1.out; have := H80.out; have := H81.out; have := HX7.out; have := HX10.out; omega) (HP0.out.ext (((((((((((HD1.out).trans' HD2.out).trans' HD3.out).trans' HD4.out).trans' HD5.out).trans' HD6.out).trans' HD7.out).trans' HD8.out).trans' HD9.out).trans' HD10.out).trans' HD11.out)) (HP1.out.ext (((((((((((HD1.out).trans' HD2.out).trans' HD3.out).trans' HD4.out).trans' HD5.out).trans' HD6.out).trans' HD7.out).trans' HD8.out).trans' HD9.out).trans' HD10.out).trans' HD11.out)) (setB_strict HS0.out) (setB_strict HS1.out) (listB_abs HB0.out) (listB_abs HB1.out)).mono ?_
  rintro e w12 ⟨r12, ⟨v12, rfl, ho12, hE⟩, hr12⟩
  obtain ⟨B12, d12, hv, hp⟩ := pown_len ho12 rfl
  subst hv
  have HQ12 := Lib.hid hp; clear hp
  have HD12 := Lib.hid hE
  have HR12 := Lib.hid hr12
  clear hE ho12 hr12
  have HX12 := Lib.hid (show r12.length ≤ n0 + n1 from by have := HR12.out.2.2.1; have := HL0.out; have := HL1.out; omega)
  go_wp2_with (fail)
  obtain rfl : r7 = r12 := set_join HM7.out HR12.out
  go_at_call 25
  refine (sSumSame B11 B12 r7.length d11 r7.length d12 r7 r7 _ rfl rfl (by have := HL0.out; have := HL1.out; have := H80.out; have := H81.out; have := HX7.out; have := HX10.out; have := HX12.out; omega) (by have := HL0.out; have := HL1.out; have := H80.out; have := H81.out; have := HX7.out; have := HX10.out; have := HX12.out; omega) (HQ11.out.ext (HD12.out)) HQ12.out).mono ?_
  rintro e w13 ⟨rfl, hE⟩
  have HD13 := Lib.hid (ext_q hE)
  clear hE
  rw [decide_eq_true rfl]
  go_wp2_with (fail)
  go_at_call 26
  refine (lSumFrom B10 r10.length d10 r10 _ rfl (by have := HL0.out; have := HL1.out; have := H80.out; have := H81.out; have := HX7.out; have := HX10.out; have := HX12.out; omega) (HQ10.out.ext (((HD11.out).trans' HD12.out).trans' HD13.out))).mono ?_
  rintro e w14 ⟨v14, rfl, ho14, hE⟩
  obtain ⟨B14, d14, hv, hp⟩ := pown_len ho14 rfl
  subst hv
  have HQ14 := Lib.hid hp; clear hp
  have HD14 := Lib.hid hE
  clear hE ho14
  go_wp2_with (fail)
  go_at_call 59
  refine (sSumMore A0 A1 n0 c0 n1 c1 l0 l1 _ HL0.out HL1.out (by have := HL0.out; have := HL1.out; have := H80.out; have := H81.out; have := HX7.out; have := HX10.out; have := HX12.out; omega) (HP0.out.ext ((((((((((((((HD1.out).trans' HD2.out).trans' HD3.out).trans' HD4.out).trans' HD5.out).trans' HD6.out).trans' HD7.out).trans' HD8.out).trans' HD9.out).trans' HD10.out).trans' HD11.out).trans' HD12.out).trans' HD13.out).trans' HD14.out)) (HP1.out.ext ((((((((((((((HD1.out).trans' HD2.out).trans' HD3.out).trans' HD4.out).trans' HD5.out).trans' HD6.out).trans' HD7.out).trans' HD8.out).trans' HD9.out).trans' HD10.out).trans' HD11.out).trans' HD12.out).trans' HD13.out).trans' HD14.out)) (setB_strict HS0.out) (setB_strict HS1.out) (listB_abs HB0.out) (listB_abs HB1.out)).mono ?_
  rintro e w15 ⟨r15, ⟨v15, rfl, ho15, hE⟩, hr15⟩
  obtain ⟨B15, d15, hv, hp⟩ := pown_len ho15 rfl
  subst hv
  have HQ15 := Lib.hid hp; clear hp
  have HD15 := Lib.hid hE
  have HR15 := Lib.hid hr15
  clear hE ho15 hr15
  have HX15 := Lib.hid (show r15.length ≤ n0 + n1 from by have := HR15.out.2.2.1; have := HL0.out; have := HL1.out; omega)
  go_wp2_with (fail)
  obtain rfl : r10 = r15 := set_join HM10.out HR15.out
  go_at_call 25
  refine (sSumSame B14 B15 r10.length d14 r10.length d15 r10 r10 _ rfl rfl (by have := HL0.out; have := HL1.out; have := H80.out; have := H81.out; have := HX7.out; have := HX10.out; have := HX12.out; have := HX15.out; omega) (by have := HL0.out; have := HL1.out; have := H80.out; have := H81.out; have := HX7.out; have := HX10.out; have := HX12.out; have := HX15.out; omega) (HQ14.out.ext (HD15.out)) HQ15.out).mono ?_
  rintro e w16 ⟨rfl, hE⟩
  have HD16 := Lib.hid (ext_q hE)
  clear hE
  rw [decide_eq_true rfl]
  go_wp2_with (fail)
  go_at_call 24
  refine (sumAwake _).mono ?_
  rintro e w17 ⟨rfl, hE⟩
  have HD17 := Lib.hid hE
  clear hE
  go_wp2_with (fail)
  go_ret
  exact ⟨rfl, (((((((((((((((((HD1.out).trans' HD2.out).trans' HD3.out).trans' HD4.out).trans' HD5.out).trans' HD6.out).trans' HD7.out).trans' HD8.out).trans' HD9.out).trans' HD10.out).trans' HD11.out).trans' HD12.out).trans' HD13.out).trans' HD14.out).trans' HD15.out).trans' HD16.out).trans' HD17.out)⟩
end Go.Proofs.YtagfbefgcijegaaGreatDoor
