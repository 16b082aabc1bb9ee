/-
  The walk of the law FnCoinsSub: it returns true.
-/
import Derived.Test.YtagfbefgcijegaaGreatDoorGE
import Derived.Test.YtagfbefgcijegaaGreatDoorGH
import Derived.Test.YtagfbefgcijegaaGreatDoorGI
namespace Go.Proofs.YtagfbefgcijegaaGreatDoor
open Go Go.RowKit

theorem join_taken {a b r r' : List (ByteArray × Int)} (h : (r.Pairwise fun a b => keyLt a.1 b.1 = true) ∧ (∀ y ∈ r, y.2 ≠ 0) ∧ r.length ≤ a.length + b.length ∧ ∀ s, totalP s r = (fun x y => x - y) (totalP s a) (totalP s b)) (h' : IsAdd (a ++ negs b) r') : r = r' :=
  sums_unique (l := r) ⟨h.1, h.2.1, fun _ => rfl⟩ (isAdd_sums h') fun s => by rw [h.2.2.2, totalP_append, total_negs]; dsimp only; omega

set_option maxRecDepth 100000 in
set_option maxHeartbeats 4000000 in
theorem lawSub (A0 : Option Addr) (n0 c0 : Nat) (l0 : List (ByteArray × Int)) (A1 : Option Addr) (n1 c1 : Nat) (l1 : List (ByteArray × Int)) (w : World) (hl0 : l0.length = n0) (hn0 : n0 ≤ 9223372036854775807) (h0 : PlainAt w A0 l0) (hl1 : l1.length = n1) (hn1 : n1 ≤ 9223372036854775807) (h1 : PlainAt w A1 l1) :
    Calls Tryz.prog 12 #[.slice A0 n0 c0, .slice A1 n1 c1] w (RetE (.bool true) w) := by
  have HL0 := Lib.hid hl0; have HN0 := Lib.hid hn0; have HP0 := Lib.hid h0
  have HL1 := Lib.hid hl1; have HN1 := Lib.hid hn1; have HP1 := Lib.hid h1
  clear hl0 hn0 h0 hl1 hn1 h1
  go_enter Tryz.func12, Tryz.ntmps12
  go_wp2_with (fail)
  go_at_call 19
  refine (zFits2 A0 n0 c0 l0 _ HL0.out HN0.out (HP0.out.ext (Ext.refl _))).mono ?_
  rintro e w1 ⟨r, rfl, hf, hE⟩
  have HD1 := Lib.hid hE
  clear hE
  cases r
  · go_wp2_with (fail)
    go_ret
    exact ⟨rfl, (HD1.out)⟩
  have HF0 := Lib.hid (hf rfl); clear hf
  go_wp2_with (fail)
  go_at_call 19
  refine (zFits2 A1 n1 c1 l1 _ HL1.out HN1.out (HP1.out.ext (HD1.out))).mono ?_
  rintro e w2 ⟨r, rfl, hf, hE⟩
  have HD2 := Lib.hid hE
  clear hE
  cases r
  · go_wp2_with (fail)
    go_ret
    exact ⟨rfl, ((HD1.out).trans' HD2.out)⟩
  have HF1 := Lib.hid (hf rfl); clear hf
  go_wp2_with (fail)
  go_at_call 28
  refine (sIsSumSet A0 n0 c0 l0 _ HL0.out HF0.out (HP0.out.ext ((HD1.out).trans' HD2.out))).mono ?_
  rintro e w3 ⟨rfl, hE⟩
  have HD3 := Lib.hid hE
  clear hE
  cases hb3 : setB l0
  · go_wp2_with (fail)
    go_ret
    exact ⟨rfl, (((HD1.out).trans' HD2.out).trans' HD3.out)⟩
  have HS0 := Lib.hid hb3; clear hb3
  go_wp2_with (fail)
  have HB0 := Lib.hid (setB_list HS0.out)
  have H80 := Lib.hid (show n0 ≤ 8 from by have := listB_len HB0.out; have := HL0.out; omega)
  go_at_call 28
  refine (sIsSumSet A1 n1 c1 l1 _ HL1.out HF1.out (HP1.out.ext (((HD1.out).trans' HD2.out).trans' HD3.out))).mono ?_
  rintro e w4 ⟨rfl, hE⟩
  have HD4 := Lib.hid hE
  clear hE
  cases hb4 : setB l1
  · go_wp2_with (fail)
    go_ret
    exact ⟨rfl, ((((HD1.out).trans' HD2.out).trans' HD3.out).trans' HD4.out)⟩
  have HS1 := Lib.hid hb4; clear hb4
  go_wp2_with (fail)
  have HB1 := Lib.hid (setB_list HS1.out)
  have H81 := Lib.hid (show n1 ≤ 8 from by have := listB_len HB1.out; have := HL1.out; omega)
  go_at_call 53
  refine (sSumTaken A0 A1 n0 c0 n1 c1 l0 l1 _ HL0.out HL1.out (by have := HL0.out; have := HL1.out; have := H80.out; have := H81.out; omega) (HP0.out.ext ((((HD1.out).trans' HD2.out).trans' HD3.out).trans' HD4.out)) (HP1.out.ext ((((HD1.out).trans' HD2.out).trans' HD3.out).trans' HD4.out)) (setB_strict HS0.out) (setB_strict HS1.out) (listB_abs HB0.out) (listB_abs HB1.out)).mono ?_
  rintro e w5 ⟨r5, ⟨v5, rfl, ho5, hE⟩, hr5⟩
  obtain ⟨B5, d5, hv, hp⟩ := pown_len ho5 rfl
  subst hv
  have HQ5 := Lib.hid hp; clear hp
  have HD5 := Lib.hid hE
  have HR5 := Lib.hid hr5
  clear hE ho5 hr5
  have HX5 := Lib.hid (show r5.length ≤ n0 + n1 from by have := HR5.out.2.2.1; have := HL0.out; have := HL1.out; omega)
  go_wp2_with (fail)
  obtain ⟨q, hq⟩ : ∃ q, q = negB r5 := ⟨_, rfl⟩
  have HQN := Lib.hid hq; clear hq
  go_at_call 22
  refine (lSumTo A0 n0 c0 l0 _ HL0.out (by have := HL0.out; have := HL1.out; have := H80.out; have := H81.out; have := HX5.out; omega) (HP0.out.ext (((((HD1.out).trans' HD2.out).trans' HD3.out).trans' HD4.out).trans' HD5.out))).mono ?_
  rintro e w6 ⟨v6, rfl, ho6, hE⟩
  obtain ⟨B6, d6, hv, hp⟩ := pown_len ho6 HL0.out
  subst hv
  have HQ6 := Lib.hid hp; clear hp
  have HD6 := Lib.hid hE
  clear hE ho6
  go_wp2_with (fail)
  go_at_call 22
  refine (lSumTo A1 n1 c1 l1 _ HL1.out (by have := HL0.out; have := HL1.out; have := H80.out; have := H81.out; have := HX5.out; omega) (HP1.out.ext ((((((HD1.out).trans' HD2.out).trans' HD3.out).trans' HD4.out).trans' HD5.out).trans' HD6.out))).mono ?_
  rintro e w7 ⟨v7, rfl, ho7, hE⟩
  obtain ⟨B7, d7, hv, hp⟩ := pown_len ho7 HL1.out
  subst hv
  have HQ7 := Lib.hid hp; clear hp
  have HD7 := Lib.hid hE
  clear hE ho7
  go_wp2_with (fail)
  go_at_call 54
  refine (iSafeOf B6 B7 n0 d6 n1 d7 l0 l1 _ HL0.out HL1.out (by have := HL0.out; have := HL1.out; have := H80.out; have := H81.out; have := HX5.out; omega) (by have := HL0.out; have := HL1.out; have := H80.out; have := H81.out; have := HX5.out; omega) (HQ6.out.ext (HD7.out)) HQ7.out (both (fits_size HF0.out) (fits_size HF1.out)) (both (listB_abs HB0.out) (listB_abs HB1.out)) (setB_sorted HS0.out) (setB_is HS1.out)).mono ?_
  rintro e w8 ⟨v8, r', rfl, had, ho8, hE⟩
  obtain rfl : r5 = r' := join_taken HR5.out had
  rw [← HQN.out]
  obtain ⟨B8, d8, hv, hp⟩ := pown_len ho8 rfl
  subst hv
  have HQ8 := Lib.hid hp; clear hp
  have HD8 := Lib.hid hE
  clear hE had ho8
  cases q
  · go_wp2_with (fail)
    go_at_call 50
    refine (sSumNegative B5 r5.length d5 r5 _ rfl (by have := HL0.out; have := HL1.out; have := H80.out; have := H81.out; have := HX5.out; omega) (HQ5.out.ext (((HD6.out).trans' HD7.out).trans' HD8.out))).mono ?_
    rintro e w9 ⟨rfl, hE⟩
    have HD9 := Lib.hid hE
    clear hE
    rw [← HQN.out]
    go_wp2_with (fail)
    go_at_call 26
    refine (lSumFrom B8 r5.length d8 r5 _ rfl (by have := HL0.out; have := HL1.out; have := H80.out; have := H81.out; have := HX5.out; omega) (HQ8.out.ext (HD9.out))).mono ?_
    rintro e w10 ⟨v10, rfl, ho10, hE⟩
    obtain ⟨B10, d10, hv, hp⟩ := pown_len ho10 rfl
    subst hv
    have HQ10 := Lib.hid hp; clear hp
    have HD10 := Lib.hid hE
    clear hE ho10
    go_wp2_with (fail)
    go_at_call 25
    refine (sSumSame B10 B5 r5.length d10 r5.length d5 r5 r5 _ rfl rfl (by have := HL0.out; have := HL1.out; have := H80.out; have := H81.out; have := HX5.out; omega) (by have := HL0.out; have := HL1.out; have := H80.out; have := H81.out; have := HX5.out; omega) HQ10.out (HQ5.out.ext (((((HD6.out).trans' HD7.out).trans' HD8.out).trans' HD9.out).trans' HD10.out))).mono ?_
    rintro e w11 ⟨rfl, hE⟩
    have HD11 := Lib.hid (ext_q hE)
    clear hE
    rw [decide_eq_true rfl]
    go_wp2_with (fail)
    go_at_call 22
    refine (lSumTo A0 n0 c0 l0 _ HL0.out (by have := HL0.out; have := HL1.out; have := H80.out; have := H81.out; have := HX5.out; omega) (HP0.out.ext (((((((((((HD1.out).trans' HD2.out).trans' HD3.out).trans' HD4.out).trans' HD5.out).trans' HD6.out).trans' HD7.out).trans' HD8.out).trans' HD9.out).trans' HD10.out).trans' HD11.out))).mono ?_
    rintro e w12 ⟨v12, rfl, ho12, hE⟩
    obtain ⟨B12, d12, hv, hp⟩ := pown_len ho12 HL0.out
    subst hv
    have HQ12 := Lib.hid hp; clear hp
    have HD12 := Lib.hid hE
    clear hE ho12
    go_wp2_with (fail)
    go_at_call 22
    refine (lSumTo A1 n1 c1 l1 _ HL1.out (by have := HL0.out; have := HL1.out; have := H80.out; have := H81.out; have := HX5.out; omega) (HP1.out.ext ((((((((((((HD1.out).trans' HD2.out).trans' HD3.out).trans' HD4.out).trans' HD5.out).trans' HD6.out).trans' HD7.out).trans' HD8.out).trans' HD9.out).trans' HD10.out).trans' HD11.out).trans' HD12.out))).mono ?_
    rintro e w13 ⟨v13, rfl, ho13, hE⟩
    obtain ⟨B13, d13, hv, hp⟩ := pown_len ho13 HL1.out
    subst hv
    have HQ13 := Lib.hid hp; clear hp
    have HD13 := Lib.hid hE
    clear hE ho13
    go_wp2_with (fail)
    go_at_call 55
    refine (iSubOf B12 B13 n0 d12 n1 d13 l0 l1 _ HL0.out HL1.out (by have := HL0.out; have := HL1.out; have := H80.out; have := H81.out; have := HX5.out; omega) (by have := HL0.out; have := HL1.out; have := H80.out; have := H81.out; have := HX5.out; omega) (HQ12.out.ext (HD13.out)) HQ13.out (both (fits_size HF0.out) (fits_size HF1.out)) (both (listB_abs HB0.out) (listB_abs HB1.out)) (setB_sorted HS0.out) (setB_is HS1.out)).mono ?_
    rintro e w14 ⟨r', had, hE, hc⟩
    obtain rfl : r5 = r' := join_taken HR5.out had
    rw [← HQN.out] at hc
    have HD14 := Lib.hid hE
    rcases hc with ⟨hc, _⟩ | ⟨_, v14, rfl, ho14⟩
    · cases hc
    obtain ⟨B14, d14, hv, hp⟩ := pown_len ho14 rfl
    subst hv
    have HQ14 := Lib.hid hp; clear hp
    clear hE had ho14
    go_wp2_with (fail)
    go_at_call 26
    refine (lSumFrom B14 r5.length d14 r5 _ rfl (by have := HL0.out; have := HL1.out; have := H80.out; have := H81.out; have := HX5.out; omega) HQ14.out).mono ?_
    rintro e w15 ⟨v15, rfl, ho15, hE⟩
    obtain ⟨B15, d15, hv, hp⟩ := pown_len ho15 rfl
    subst hv
    have HQ15 := Lib.hid hp; clear hp
    have HD15 := Lib.hid hE
    clear hE ho15
    go_wp2_with (fail)
    go_at_call 25
    refine (sSumSame B15 B5 r5.length d15 r5.length d5 r5 r5 _ rfl rfl (by have := HL0.out; have := HL1.out; have := H80.out; have := H81.out; have := HX5.out; omega) (by have := HL0.out; have := HL1.out; have := H80.out; have := H81.out; have := HX5.out; omega) HQ15.out (HQ5.out.ext ((((((((((HD6.out).trans' HD7.out).trans' HD8.out).trans' HD9.out).trans' HD10.out).trans' HD11.out).trans' HD12.out).trans' HD13.out).trans' HD14.out).trans' HD15.out))).mono ?_
    rintro e w16 ⟨rfl, hE⟩
    have HD16 := Lib.hid (ext_q hE)
    clear hE
    rw [decide_eq_true rfl]
    go_wp2_with (fail)
    go_at_call 24
    refine (sumAwake _).mono ?_
    rintro e w17 ⟨rfl, hE⟩
    have HD17 := Lib.hid hE
    clear hE
    go_wp2_with (fail)
    go_ret
    exact ⟨rfl, (((((((((((((((((HD1.out).trans' HD2.out).trans' HD3.out).trans' HD4.out).trans' HD5.out).trans' HD6.out).trans' HD7.out).trans' HD8.out).trans' HD9.out).trans' HD10.out).trans' HD11.out).trans' HD12.out).trans' HD13.out).trans' HD14.out).trans' HD15.out).trans' HD16.out).trans' HD17.out)⟩
  · go_wp2_with (fail)
    go_at_call 50
    refine (sSumNegative B5 r5.length d5 r5 _ rfl (by have := HL0.out; have := HL1.out; have := H80.out; have := H81.out; have := HX5.out; omega) (HQ5.out.ext (((HD6.out).trans' HD7.out).trans' HD8.out))).mono ?_
    rintro e w9 ⟨rfl, hE⟩
    have HD9 := Lib.hid hE
    clear hE
    rw [← HQN.out]
    go_wp2_with (fail)
    go_at_call 26
    refine (lSumFrom B8 r5.length d8 r5 _ rfl (by have := HL0.out; have := HL1.out; have := H80.out; have := H81.out; have := HX5.out; omega) (HQ8.out.ext (HD9.out))).mono ?_
    rintro e w10 ⟨v10, rfl, ho10, hE⟩
    obtain ⟨B10, d10, hv, hp⟩ := pown_len ho10 rfl
    subst hv
    have HQ10 := Lib.hid hp; clear hp
    have HD10 := Lib.hid hE
    clear hE ho10
    go_wp2_with (fail)
    go_at_call 25
    refine (sSumSame B10 B5 r5.length d10 r5.length d5 r5 r5 _ rfl rfl (by have := HL0.out; have := HL1.out; have := H80.out; have := H81.out; have := HX5.out; omega) (by have := HL0.out; have := HL1.out; have := H80.out; have := H81.out; have := HX5.out; omega) HQ10.out (HQ5.out.ext (((((HD6.out).trans' HD7.out).trans' HD8.out).trans' HD9.out).trans' HD10.out))).mono ?_
    rintro e w11 ⟨rfl, hE⟩
    have HD11 := Lib.hid (ext_q hE)
    clear hE
    rw [decide_eq_true rfl]
    go_wp2_with (fail)
    go_at_call 22
    refine (lSumTo A0 n0 c0 l0 _ HL0.out (by have := HL0.out; have := HL1.out; have := H80.out; have := H81.out; have := HX5.out; omega) (HP0.out.ext (((((((((((HD1.out).trans' HD2.out).trans' HD3.out).trans' HD4.out).trans' HD5.out).trans' HD6.out).trans' HD7.out).trans' HD8.out).trans' HD9.out).trans' HD10.out).trans' HD11.out))).mono ?_
    rintro e w12 ⟨v12, rfl, ho12, hE⟩
    obtain ⟨B12, d12, hv, hp⟩ := pown_len ho12 HL0.out
    subst hv
    have HQ12 := Lib.hid hp; clear hp
    have HD12 := Lib.hid hE
    clear hE ho12
    go_wp2_with (fail)
    go_at_call 22
    refine (lSumTo A1 n1 c1 l1 _ HL1.out (by have := HL0.out; have := HL1.out; have := H80.out; have := H81.out; have := HX5.out; omega) (HP1.out.ext ((((((((((((HD1.out).trans' HD2.out).trans' HD3.out).trans' HD4.out).trans' HD5.out).trans' HD6.out).trans' HD7.out).trans' HD8.out).trans' HD9.out).trans' HD10.out).trans' HD11.out).trans' HD12.out))).mono ?_
    rintro e w13 ⟨v13, rfl, ho13, hE⟩
    obtain ⟨B13, d13, hv, hp⟩ := pown_len ho13 HL1.out
    subst hv
    have HQ13 := Lib.hid hp; clear hp
    have HD13 := Lib.hid hE
    clear hE ho13
    go_wp2_with (fail)
    go_at_call 55
    refine (iSubOf B12 B13 n0 d12 n1 d13 l0 l1 _ HL0.out HL1.out (by have := HL0.out; have := HL1.out; have := H80.out; have := H81.out; have := HX5.out; omega) (by have := HL0.out; have := HL1.out; have := H80.out; have := H81.out; have := HX5.out; omega) (HQ12.out.ext (HD13.out)) HQ13.out (both (fits_size HF0.out) (fits_size HF1.out)) (both (listB_abs HB0.out) (listB_abs HB1.out)) (setB_sorted HS0.out) (setB_is HS1.out)).mono ?_
    rintro e w14 ⟨r', had, hE, hc⟩
    obtain rfl : r5 = r' := join_taken HR5.out had
    rw [← HQN.out] at hc
    have HD14 := Lib.hid hE
    rcases hc with ⟨_, rfl⟩ | ⟨hc, _⟩
    rotate_left
    · cases hc
    clear hE had
    go_wp2_with (fail)
    go_at_call 24
    refine (sumAwake _).mono ?_
    rintro e w15 ⟨rfl, hE⟩
    have HD15 := Lib.hid hE
    clear hE
    go_wp2_with (fail)
    go_ret
    exact ⟨rfl, (((((((((((((((HD1.out).trans' HD2.out).trans' HD3.out).trans' HD4.out).trans' HD5.out).trans' HD6.out).trans' HD7.out).trans' HD8.out).trans' HD9.out).trans' HD10.out).trans' HD11.out).trans' HD12.out).trans' HD13.out).trans' HD14.out).trans' HD15.out)⟩
end Go.Proofs.YtagfbefgcijegaaGreatDoor
