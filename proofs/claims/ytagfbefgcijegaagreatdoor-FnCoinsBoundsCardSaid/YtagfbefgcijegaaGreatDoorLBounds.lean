/-
  The walk of the law FnCoinsBounds: it returns true.
-/
import Derived.Test.YtagfbefgcijegaaGreatDoorGE
import Derived.Test.YtagfbefgcijegaaGreatDoorAtMost
import Derived.Test.YtagfbefgcijegaaGreatDoorGH
import Derived.Test.YtagfbefgcijegaaGreatDoorGK
import Derived.Test.YtagfbefgcijegaaGreatDoorEqual2
namespace Go.Proofs.YtagfbefgcijegaaGreatDoor
open Go Go.RowKit

theorem bool_iff {p q : Bool} (h : p = true ↔ q = true) : p = q := by cases p <;> cases q <;> simp_all
/-- At most both just if at most the least; at least both just if at least the greatest. -/
theorem lo_le {a b r : List (ByteArray × Int)} (ha : isB a = true) (hb : isB b = true) (h : isB r = true ∧ ∀ s, totalP s r = min (totalP s a) (totalP s b)) : gteB a r = true ∧ gteB b r = true :=
  ⟨(lte_iff h.1 ha).2 fun s => by rw [h.2]; omega, (lte_iff h.1 hb).2 fun s => by rw [h.2]; omega⟩
theorem hi_ge {a b r : List (ByteArray × Int)} (ha : isB a = true) (hb : isB b = true) (h : isB r = true ∧ ∀ s, totalP s r = max (totalP s a) (totalP s b)) : gteB r a = true ∧ gteB r b = true :=
  ⟨(lte_iff ha h.1).2 fun s => by rw [h.2]; omega, (lte_iff hb h.1).2 fun s => by rw [h.2]; omega⟩
theorem lo_iff {a b c r : List (ByteArray × Int)} (ha : isB a = true) (hb : isB b = true) (hc : isB c = true) (h : isB r = true ∧ ∀ s, totalP s r = min (totalP s a) (totalP s b)) : gteB r c = (gteB a c && gteB b c) := by
  refine bool_iff ?_
  rw [Bool.and_eq_true, lte_iff hc h.1, lte_iff hc ha, lte_iff hc hb]
  exact ⟨fun k => ⟨fun s => by have := k s; rw [h.2] at this; omega, fun s => by have := k s; rw [h.2] at this; omega⟩, fun k s => by have := k.1 s; have := k.2 s; rw [h.2]; omega⟩
theorem hi_iff {a b c r : List (ByteArray × Int)} (ha : isB a = true) (hb : isB b = true) (hc : isB c = true) (h : isB r = true ∧ ∀ s, totalP s r = max (totalP s a) (totalP s b)) : gteB c r = (gteB c a && gteB c b) := by
  refine bool_iff ?_
  rw [Bool.and_eq_true, lte_iff h.1 hc, lte_iff ha hc, lte_iff hb hc]
  exact ⟨fun k => ⟨fun s => by have := k s; rw [h.2] at this; omega, fun s => by have := k s; rw [h.2] at this; omega⟩, fun k s => by have := k.1 s; have := k.2 s; rw [h.2]; omega⟩
theorem lohi_sum {a b lo hi r r' : List (ByteArray × Int)} (hl : isB lo = true ∧ ∀ s, totalP s lo = min (totalP s a) (totalP s b)) (hh : isB hi = true ∧ ∀ s, totalP s hi = max (totalP s a) (totalP s b)) (h : IsAdd (a ++ b) r) (h' : IsAdd (lo ++ hi) r') : r = r' :=
  sums_unique (isAdd_sums h) (isAdd_sums h') fun s => by rw [totalP_append, totalP_append, hl.2, hh.2]; omega
theorem isB_app {a b r : List (ByteArray × Int)} (h : IsAdd (a ++ b) r) (ha : isB a = true) (hb : isB b = true) : isB r = true := by
  unfold isB at ha hb; rw [decide_eq_true_iff] at ha hb
  exact isB_add h (both (fun x hx => (ha.1 x hx).2) (fun x hx => (hb.1 x hx).2)) (both (fun x hx => (ha.1 x hx).1) (fun x hx => (hb.1 x hx).1))
theorem add_big {l m r : List (ByteArray × Int)} {n : Nat} (h : IsAdd (l ++ m) r) (b1 : ∀ x ∈ l ++ m, x.2.natAbs ≤ 1099511627776) (hn : (l ++ m).length ≤ n) (hn2 : n ≤ 100) : ∀ x ∈ r, -maxI ≤ x.2 ∧ x.2 ≤ maxI := by
  intro x hx
  have h1 := isAdd_bound (m := 1099511627776) h b1 x hx
  unfold maxI; omega

set_option maxRecDepth 100000 in
set_option maxHeartbeats 16000000 in
theorem lawBounds (A0 : Option Addr) (n0 c0 : Nat) (l0 : List (ByteArray × Int)) (A1 : Option Addr) (n1 c1 : Nat) (l1 : List (ByteArray × Int)) (A2 : Option Addr) (n2 c2 : Nat) (l2 : List (ByteArray × Int)) (w : World) (hl0 : l0.length = n0) (hn0 : n0 ≤ 9223372036854775807) (h0 : PlainAt w A0 l0) (hl1 : l1.length = n1) (hn1 : n1 ≤ 9223372036854775807) (h1 : PlainAt w A1 l1) (hl2 : l2.length = n2) (hn2 : n2 ≤ 9223372036854775807) (h2 : PlainAt w A2 l2) :
    Calls Tryz.prog 17 #[.slice A0 n0 c0, .slice A1 n1 c1, .slice A2 n2 c2] w (RetE (.bool true) w) := by
  have HL0 := Lib.hid hl0; have HN0 := Lib.hid hn0; have HP0 := Lib.hid h0
  have HL1 := Lib.hid hl1; have HN1 := Lib.hid hn1; have HP1 := Lib.hid h1
  have HL2 := Lib.hid hl2; have HN2 := Lib.hid hn2; have HP2 := Lib.hid h2
  clear hl0 hn0 h0 hl1 hn1 h1 hl2 hn2 h2
  go_enter Tryz.func17, Tryz.ntmps17
  go_wp2_with (fail)
  go_at_call 19
  refine (zFits2 A0 n0 c0 l0 _ HL0.out HN0.out (HP0.out.ext (Ext.refl _))).mono ?_
  rintro e w1 ⟨r, rfl, hf, hE⟩
  have HD1 := Lib.hid hE
  clear hE
  cases r
  · go_wp2_with (fail)
    go_ret
    exact ⟨rfl, (HD1.out)⟩
  have HF0 := Lib.hid (hf rfl); clear hf
  go_wp2_with (fail)
  go_at_call 19
  refine (zFits2 A1 n1 c1 l1 _ HL1.out HN1.out (HP1.out.ext (HD1.out))).mono ?_
  rintro e w2 ⟨r, rfl, hf, hE⟩
  have HD2 := Lib.hid hE
  clear hE
  cases r
  · go_wp2_with (fail)
    go_ret
    exact ⟨rfl, ((HD1.out).trans' HD2.out)⟩
  have HF1 := Lib.hid (hf rfl); clear hf
  go_wp2_with (fail)
  go_at_call 19
  refine (zFits2 A2 n2 c2 l2 _ HL2.out HN2.out (HP2.out.ext ((HD1.out).trans' HD2.out))).mono ?_
  rintro e w3 ⟨r, rfl, hf, hE⟩
  have HD3 := Lib.hid hE
  clear hE
  cases r
  · go_wp2_with (fail)
    go_ret
    exact ⟨rfl, (((HD1.out).trans' HD2.out).trans' HD3.out)⟩
  have HF2 := Lib.hid (hf rfl); clear hf
  go_wp2_with (fail)
  go_at_call 28
  refine (sIsSumSet A0 n0 c0 l0 _ HL0.out HF0.out (HP0.out.ext (((HD1.out).trans' HD2.out).trans' HD3.out))).mono ?_
  rintro e w4 ⟨rfl, hE⟩
  have HD4 := Lib.hid hE
  clear hE
  cases hb4 : setB l0
  · go_wp2_with (fail)
    go_ret
    exact ⟨rfl, ((((HD1.out).trans' HD2.out).trans' HD3.out).trans' HD4.out)⟩
  have HS0 := Lib.hid hb4; clear hb4
  go_wp2_with (fail)
  have HB0 := Lib.hid (setB_list HS0.out)
  have H80 := Lib.hid (show n0 ≤ 8 from by have := listB_len HB0.out; have := HL0.out; omega)
  go_at_call 28
  refine (sIsSumSet A1 n1 c1 l1 _ HL1.out HF1.out (HP1.out.ext ((((HD1.out).trans' HD2.out).trans' HD3.out).trans' HD4.out))).mono ?_
  rintro e w5 ⟨rfl, hE⟩
  have HD5 := Lib.hid hE
  clear hE
  cases hb5 : setB l1
  · go_wp2_with (fail)
    go_ret
    exact ⟨rfl, (((((HD1.out).trans' HD2.out).trans' HD3.out).trans' HD4.out).trans' HD5.out)⟩
  have HS1 := Lib.hid hb5; clear hb5
  go_wp2_with (fail)
  have HB1 := Lib.hid (setB_list HS1.out)
  have H81 := Lib.hid (show n1 ≤ 8 from by have := listB_len HB1.out; have := HL1.out; omega)
  go_at_call 28
  refine (sIsSumSet A2 n2 c2 l2 _ HL2.out HF2.out (HP2.out.ext (((((HD1.out).trans' HD2.out).trans' HD3.out).trans' HD4.out).trans' HD5.out))).mono ?_
  rintro e w6 ⟨rfl, hE⟩
  have HD6 := Lib.hid hE
  clear hE
  cases hb6 : setB l2
  · go_wp2_with (fail)
    go_ret
    exact ⟨rfl, ((((((HD1.out).trans' HD2.out).trans' HD3.out).trans' HD4.out).trans' HD5.out).trans' HD6.out)⟩
  have HS2 := Lib.hid hb6; clear hb6
  go_wp2_with (fail)
  have HB2 := Lib.hid (setB_list HS2.out)
  have H82 := Lib.hid (show n2 ≤ 8 from by have := listB_len HB2.out; have := HL2.out; omega)
  go_at_call 22
  refine (lSumTo A0 n0 c0 l0 _ HL0.out (by have := HL0.out; have := HL1.out; have := HL2.out; have := H80.out; have := H81.out; have := H82.out; omega) (HP0.out.ext ((((((HD1.out).trans' HD2.out).trans' HD3.out).trans' HD4.out).trans' HD5.out).trans' HD6.out))).mono ?_
  rintro e w7 ⟨v7, rfl, ho7, hE⟩
  obtain ⟨B7, d7, hv, hp⟩ := pown_len ho7 HL0.out
  subst hv
  have HQ7 := Lib.hid hp; clear hp
  have HD7 := Lib.hid hE
  clear hE ho7
  go_wp2_with (fail)
  go_at_call 22
  refine (lSumTo A1 n1 c1 l1 _ HL1.out (by have := HL0.out; have := HL1.out; have := HL2.out; have := H80.out; have := H81.out; have := H82.out; omega) (HP1.out.ext (((((((HD1.out).trans' HD2.out).trans' HD3.out).trans' HD4.out).trans' HD5.out).trans' HD6.out).trans' HD7.out))).mono ?_
  rintro e w8 ⟨v8, rfl, ho8, hE⟩
  obtain ⟨B8, d8, hv, hp⟩ := pown_len ho8 HL1.out
  subst hv
  have HQ8 := Lib.hid hp; clear hp
  have HD8 := Lib.hid hE
  clear hE ho8
  go_wp2_with (fail)
  go_at_call 56
  refine (iMinOf B7 B8 n0 d7 n1 d8 l0 l1 _ HL0.out HL1.out (by have := HL0.out; have := HL1.out; have := HL2.out; have := H80.out; have := H81.out; have := H82.out; omega) (by have := HL0.out; have := HL1.out; have := HL2.out; have := H80.out; have := H81.out; have := H82.out; omega) (HQ7.out.ext (HD8.out)) HQ8.out (both (listB_abs HB0.out) (listB_abs HB1.out)) (both (fits_size HF0.out) (fits_size HF1.out)) (setB_is HS0.out) (setB_is HS1.out)).mono ?_
  rintro e w9 ⟨v9, r9, rfl, ho9, hE, hb, ht, hlen, hmem⟩
  obtain ⟨B9, d9, hv, hp⟩ := pown_len ho9 rfl
  subst hv
  have HQ9 := Lib.hid hp; clear hp
  have HD9 := Lib.hid hE
  have HM9 := Lib.hid (And.intro hb ht); have HMM9 := Lib.hid hmem
  have HX9 := Lib.hid (show r9.length ≤ n0 + n1 from by have := hlen; have := HL0.out; have := HL1.out; omega)
  clear hE ho9 hb ht hlen hmem
  go_wp2_with (fail)
  go_at_call 22
  refine (lSumTo A0 n0 c0 l0 _ HL0.out (by have := HL0.out; have := HL1.out; have := HL2.out; have := H80.out; have := H81.out; have := H82.out; have := HX9.out; omega) (HP0.out.ext (((((((((HD1.out).trans' HD2.out).trans' HD3.out).trans' HD4.out).trans' HD5.out).trans' HD6.out).trans' HD7.out).trans' HD8.out).trans' HD9.out))).mono ?_
  rintro e w10 ⟨v10, rfl, ho10, hE⟩
  obtain ⟨B10, d10, hv, hp⟩ := pown_len ho10 HL0.out
  subst hv
  have HQ10 := Lib.hid hp; clear hp
  have HD10 := Lib.hid hE
  clear hE ho10
  go_wp2_with (fail)
  go_at_call 22
  refine (lSumTo A1 n1 c1 l1 _ HL1.out (by have := HL0.out; have := HL1.out; have := HL2.out; have := H80.out; have := H81.out; have := H82.out; have := HX9.out; omega) (HP1.out.ext ((((((((((HD1.out).trans' HD2.out).trans' HD3.out).trans' HD4.out).trans' HD5.out).trans' HD6.out).trans' HD7.out).trans' HD8.out).trans' HD9.out).trans' HD10.out))).mono ?_
  rintro e w11 ⟨v11, rfl, ho11, hE⟩
  obtain ⟨B11, d11, hv, hp⟩ := pown_len ho11 HL1.out
  subst hv
  have HQ11 := Lib.hid hp; clear hp
  have HD11 := Lib.hid hE
  clear hE ho11
  go_wp2_with (fail)
  go_at_call 57
  refine (iMaxOf B10 B11 n0 d10 n1 d11 l0 l1 _ HL0.out HL1.out (by have := HL0.out; have := HL1.out; have := HL2.out; have := H80.out; have := H81.out; have := H82.out; have := HX9.out; omega) (by have := HL0.out; have := HL1.out; have := HL2.out; have := H80.out; have := H81.out; have := H82.out; have := HX9.out; omega) (HQ10.out.ext (HD11.out)) HQ11.out (both (listB_abs HB0.out) (listB_abs HB1.out)) (both (fits_size HF0.out) (fits_size HF1.out)) (setB_is HS0.out) (setB_is HS1.out)).mono ?_
  rintro e w12 ⟨v12, r12, rfl, ho12, hE, hb, ht, hlen, hmem⟩
  obtain ⟨B12, d12, hv, hp⟩ := pown_len ho12 rfl
  subst hv
  have HQ12 := Lib.hid hp; clear hp
  have HD12 := Lib.hid hE
  have HM12 := Lib.hid (And.intro hb ht); have HMM12 := Lib.hid hmem
  have HX12 := Lib.hid (show r12.length ≤ n0 + n1 from by have := hlen; have := HL0.out; have := HL1.out; omega)
  clear hE ho12 hb ht hlen hmem
  go_wp2_with (fail)
  have HZ9 := Lib.hid (show ∀ x ∈ r9, x.2.natAbs ≤ 1099511627776 ∧ x.1.size ≤ maxLen from fun x hx => both (Q := fun x : ByteArray × Int => x.2.natAbs ≤ 1099511627776 ∧ x.1.size ≤ maxLen) (fun x hx => ⟨by have := listB_mem HB0.out x hx; omega, fits_size HF0.out x hx⟩) (fun x hx => ⟨by have := listB_mem HB1.out x hx; omega, fits_size HF1.out x hx⟩) x (HMM9.out x hx))
  have HZ12 := Lib.hid (show ∀ x ∈ r12, x.2.natAbs ≤ 1099511627776 ∧ x.1.size ≤ maxLen from fun x hx => both (Q := fun x : ByteArray × Int => x.2.natAbs ≤ 1099511627776 ∧ x.1.size ≤ maxLen) (fun x hx => ⟨by have := listB_mem HB0.out x hx; omega, fits_size HF0.out x hx⟩) (fun x hx => ⟨by have := listB_mem HB1.out x hx; omega, fits_size HF1.out x hx⟩) x (HMM12.out x hx))
  go_at_call 22
  refine (lSumTo A0 n0 c0 l0 _ HL0.out (by have := HL0.out; have := HL1.out; have := HL2.out; have := H80.out; have := H81.out; have := H82.out; have := HX9.out; have := HX12.out; omega) (HP0.out.ext ((((((((((((HD1.out).trans' HD2.out).trans' HD3.out).trans' HD4.out).trans' HD5.out).trans' HD6.out).trans' HD7.out).trans' HD8.out).trans' HD9.out).trans' HD10.out).trans' HD11.out).trans' HD12.out))).mono ?_
  rintro e w13 ⟨v13, rfl, ho13, hE⟩
  obtain ⟨B13, d13, hv, hp⟩ := pown_len ho13 HL0.out
  subst hv
  have HQ13 := Lib.hid hp; clear hp
  have HD13 := Lib.hid hE
  clear hE ho13
  go_wp2_with (fail)
  go_at_call 22
  refine (lSumTo A1 n1 c1 l1 _ HL1.out (by have := HL0.out; have := HL1.out; have := HL2.out; have := H80.out; have := H81.out; have := H82.out; have := HX9.out; have := HX12.out; omega) (HP1.out.ext (((((((((((((HD1.out).trans' HD2.out).trans' HD3.out).trans' HD4.out).trans' HD5.out).trans' HD6.out).trans' HD7.out).trans' HD8.out).trans' HD9.out).trans' HD10.out).trans' HD11.out).trans' HD12.out).trans' HD13.out))).mono ?_
  rintro e w14 ⟨v14, rfl, ho14, hE⟩
  obtain ⟨B14, d14, hv, hp⟩ := pown_len ho14 HL1.out
  subst hv
  have HQ14 := Lib.hid hp; clear hp
  have HD14 := Lib.hid hE
  clear hE ho14
  go_wp2_with (fail)
  go_at_call 22
  refine (lSumTo A2 n2 c2 l2 _ HL2.out (by have := HL0.out; have := HL1.out; have := HL2.out; have := H80.out; have := H81.out; have := H82.out; have := HX9.out; have := HX12.out; omega) (HP2.out.ext ((((((((((((((HD1.out).trans' HD2.out).trans' HD3.out).trans' HD4.out).trans' HD5.out).trans' HD6.out).trans' HD7.out).trans' HD8.out).trans' HD9.out).trans' HD10.out).trans' HD11.out).trans' HD12.out).trans' HD13.out).trans' HD14.out))).mono ?_
  rintro e w15 ⟨v15, rfl, ho15, hE⟩
  obtain ⟨B15, d15, hv, hp⟩ := pown_len ho15 HL2.out
  subst hv
  have HQ15 := Lib.hid hp; clear hp
  have HD15 := Lib.hid hE
  clear hE ho15
  go_wp2_with (fail)
  have HLO := Lib.hid (lo_le (setB_is HS0.out) (setB_is HS1.out) HM9.out); have HHI := Lib.hid (hi_ge (setB_is HS0.out) (setB_is HS1.out) HM12.out)
  go_at_call 69
  refine (cAtMost2 B9 B13 r9.length d9 n0 d13 r9 l0 _ rfl HL0.out (by have := HL0.out; have := HL1.out; have := HL2.out; have := H80.out; have := H81.out; have := H82.out; have := HX9.out; have := HX12.out; omega) (by have := HL0.out; have := HL1.out; have := HL2.out; have := H80.out; have := H81.out; have := H82.out; have := HX9.out; have := HX12.out; omega) (HQ9.out.ext ((((((HD10.out).trans' HD11.out).trans' HD12.out).trans' HD13.out).trans' HD14.out).trans' HD15.out)) (HQ13.out.ext ((HD14.out).trans' HD15.out)) (both (fun x hx => by have := (HZ9.out x hx).1; omega) (listB_abs HB0.out)) (both (fun x hx => (HZ9.out x hx).2) (fits_size HF0.out)) HM9.out.1 (setB_is HS0.out)).mono ?_
  rintro e w16 ⟨rfl, hE⟩
  have HD16 := Lib.hid hE
  clear hE
  rw [HLO.out.1]
  go_wp2_with (fail)
  go_at_call 69
  refine (cAtMost2 B9 B14 r9.length d9 n1 d14 r9 l1 _ rfl HL1.out (by have := HL0.out; have := HL1.out; have := HL2.out; have := H80.out; have := H81.out; have := H82.out; have := HX9.out; have := HX12.out; omega) (by have := HL0.out; have := HL1.out; have := HL2.out; have := H80.out; have := H81.out; have := H82.out; have := HX9.out; have := HX12.out; omega) (HQ9.out.ext (((((((HD10.out).trans' HD11.out).trans' HD12.out).trans' HD13.out).trans' HD14.out).trans' HD15.out).trans' HD16.out)) (HQ14.out.ext ((HD15.out).trans' HD16.out)) (both (fun x hx => by have := (HZ9.out x hx).1; omega) (listB_abs HB1.out)) (both (fun x hx => (HZ9.out x hx).2) (fits_size HF1.out)) HM9.out.1 (setB_is HS1.out)).mono ?_
  rintro e w17 ⟨rfl, hE⟩
  have HD17 := Lib.hid hE
  clear hE
  rw [HLO.out.2]
  go_wp2_with (fail)
  go_at_call 69
  refine (cAtMost2 B13 B12 n0 d13 r12.length d12 l0 r12 _ HL0.out rfl (by have := HL0.out; have := HL1.out; have := HL2.out; have := H80.out; have := H81.out; have := H82.out; have := HX9.out; have := HX12.out; omega) (by have := HL0.out; have := HL1.out; have := HL2.out; have := H80.out; have := H81.out; have := H82.out; have := HX9.out; have := HX12.out; omega) (HQ13.out.ext ((((HD14.out).trans' HD15.out).trans' HD16.out).trans' HD17.out)) (HQ12.out.ext (((((HD13.out).trans' HD14.out).trans' HD15.out).trans' HD16.out).trans' HD17.out)) (both (listB_abs HB0.out) (fun x hx => by have := (HZ12.out x hx).1; omega)) (both (fits_size HF0.out) (fun x hx => (HZ12.out x hx).2)) (setB_is HS0.out) HM12.out.1).mono ?_
  rintro e w18 ⟨rfl, hE⟩
  have HD18 := Lib.hid hE
  clear hE
  rw [HHI.out.1]
  go_wp2_with (fail)
  go_at_call 69
  refine (cAtMost2 B14 B12 n1 d14 r12.length d12 l1 r12 _ HL1.out rfl (by have := HL0.out; have := HL1.out; have := HL2.out; have := H80.out; have := H81.out; have := H82.out; have := HX9.out; have := HX12.out; omega) (by have := HL0.out; have := HL1.out; have := HL2.out; have := H80.out; have := H81.out; have := H82.out; have := HX9.out; have := HX12.out; omega) (HQ14.out.ext ((((HD15.out).trans' HD16.out).trans' HD17.out).trans' HD18.out)) (HQ12.out.ext ((((((HD13.out).trans' HD14.out).trans' HD15.out).trans' HD16.out).trans' HD17.out).trans' HD18.out)) (both (listB_abs HB1.out) (fun x hx => by have := (HZ12.out x hx).1; omega)) (both (fits_size HF1.out) (fun x hx => (HZ12.out x hx).2)) (setB_is HS1.out) HM12.out.1).mono ?_
  rintro e w19 ⟨rfl, hE⟩
  have HD19 := Lib.hid hE
  clear hE
  rw [HHI.out.2]
  go_wp2_with (fail)
  obtain ⟨u, hu⟩ : ∃ b, b = gteB l0 l2 := ⟨_, rfl⟩
  have HVu := Lib.hid hu; clear hu
  obtain ⟨v, hv⟩ : ∃ b, b = gteB l1 l2 := ⟨_, rfl⟩
  have HVv := Lib.hid hv; clear hv
  obtain ⟨p, hp⟩ : ∃ b, b = gteB l2 l0 := ⟨_, rfl⟩
  have HVp := Lib.hid hp; clear hp
  obtain ⟨q, hq⟩ : ∃ b, b = gteB l2 l1 := ⟨_, rfl⟩
  have HVq := Lib.hid hq; clear hq
  have HUV := Lib.hid (show gteB r9 l2 = (u && v) by rw [HVu.out, HVv.out]; exact lo_iff (setB_is HS0.out) (setB_is HS1.out) (setB_is HS2.out) HM9.out)
  have HPQ := Lib.hid (show gteB l2 r12 = (p && q) by rw [HVp.out, HVq.out]; exact hi_iff (setB_is HS0.out) (setB_is HS1.out) (setB_is HS2.out) HM12.out)
  cases u
  · go_wp2_with (fail)
    go_at_call 69
    refine (cAtMost2 B15 B13 n2 d15 n0 d13 l2 l0 _ HL2.out HL0.out (by have := HL0.out; have := HL1.out; have := HL2.out; have := H80.out; have := H81.out; have := H82.out; have := HX9.out; have := HX12.out; omega) (by have := HL0.out; have := HL1.out; have := HL2.out; have := H80.out; have := H81.out; have := H82.out; have := HX9.out; have := HX12.out; omega) (HQ15.out.ext ((((HD16.out).trans' HD17.out).trans' HD18.out).trans' HD19.out)) (HQ13.out.ext ((((((HD14.out).trans' HD15.out).trans' HD16.out).trans' HD17.out).trans' HD18.out).trans' HD19.out)) (both (listB_abs HB2.out) (listB_abs HB0.out)) (both (fits_size HF2.out) (fits_size HF0.out)) (setB_is HS2.out) (setB_is HS0.out)).mono ?_
    rintro e w20 ⟨rfl, hE⟩
    have HD20 := Lib.hid hE
    clear hE
    rw [← HVu.out]
    go_wp2_with (fail)
    go_at_call 69
    refine (cAtMost2 B15 B9 n2 d15 r9.length d9 l2 r9 _ HL2.out rfl (by have := HL0.out; have := HL1.out; have := HL2.out; have := H80.out; have := H81.out; have := H82.out; have := HX9.out; have := HX12.out; omega) (by have := HL0.out; have := HL1.out; have := HL2.out; have := H80.out; have := H81.out; have := H82.out; have := HX9.out; have := HX12.out; omega) (HQ15.out.ext (((((HD16.out).trans' HD17.out).trans' HD18.out).trans' HD19.out).trans' HD20.out)) (HQ9.out.ext (((((((((((HD10.out).trans' HD11.out).trans' HD12.out).trans' HD13.out).trans' HD14.out).trans' HD15.out).trans' HD16.out).trans' HD17.out).trans' HD18.out).trans' HD19.out).trans' HD20.out)) (both (listB_abs HB2.out) (fun x hx => by have := (HZ9.out x hx).1; omega)) (both (fits_size HF2.out) (fun x hx => (HZ9.out x hx).2)) (setB_is HS2.out) HM9.out.1).mono ?_
    rintro e w21 ⟨rfl, hE⟩
    have HD21 := Lib.hid hE
    clear hE
    rw [HUV.out]
    go_wp2_with (fail)
    cases p
    · go_wp2_with (fail)
      go_at_call 69
      refine (cAtMost2 B13 B15 n0 d13 n2 d15 l0 l2 _ HL0.out HL2.out (by have := HL0.out; have := HL1.out; have := HL2.out; have := H80.out; have := H81.out; have := H82.out; have := HX9.out; have := HX12.out; omega) (by have := HL0.out; have := HL1.out; have := HL2.out; have := H80.out; have := H81.out; have := H82.out; have := HX9.out; have := HX12.out; omega) (HQ13.out.ext ((((((((HD14.out).trans' HD15.out).trans' HD16.out).trans' HD17.out).trans' HD18.out).trans' HD19.out).trans' HD20.out).trans' HD21.out)) (HQ15.out.ext ((((((HD16.out).trans' HD17.out).trans' HD18.out).trans' HD19.out).trans' HD20.out).trans' HD21.out)) (both (listB_abs HB0.out) (listB_abs HB2.out)) (both (fits_size HF0.out) (fits_size HF2.out)) (setB_is HS0.out) (setB_is HS2.out)).mono ?_
      rintro e w22 ⟨rfl, hE⟩
      have HD22 := Lib.hid hE
      clear hE
      rw [← HVp.out]
      go_wp2_with (fail)
      go_at_call 69
      refine (cAtMost2 B12 B15 r12.length d12 n2 d15 r12 l2 _ rfl HL2.out (by have := HL0.out; have := HL1.out; have := HL2.out; have := H80.out; have := H81.out; have := H82.out; have := HX9.out; have := HX12.out; omega) (by have := HL0.out; have := HL1.out; have := HL2.out; have := H80.out; have := H81.out; have := H82.out; have := HX9.out; have := HX12.out; omega) (HQ12.out.ext ((((((((((HD13.out).trans' HD14.out).trans' HD15.out).trans' HD16.out).trans' HD17.out).trans' HD18.out).trans' HD19.out).trans' HD20.out).trans' HD21.out).trans' HD22.out)) (HQ15.out.ext (((((((HD16.out).trans' HD17.out).trans' HD18.out).trans' HD19.out).trans' HD20.out).trans' HD21.out).trans' HD22.out)) (both (fun x hx => by have := (HZ12.out x hx).1; omega) (listB_abs HB2.out)) (both (fun x hx => (HZ12.out x hx).2) (fits_size HF2.out)) HM12.out.1 (setB_is HS2.out)).mono ?_
      rintro e w23 ⟨rfl, hE⟩
      have HD23 := Lib.hid hE
      clear hE
      rw [HPQ.out]
      go_wp2_with (fail)
      go_at_call 21
      refine (iAddOf B13 B14 n0 d13 n1 d14 l0 l1 _ HL0.out HL1.out (by have := HL0.out; have := HL1.out; have := HL2.out; have := H80.out; have := H81.out; have := H82.out; have := HX9.out; have := HX12.out; omega) (HQ13.out.ext ((((((((((HD14.out).trans' HD15.out).trans' HD16.out).trans' HD17.out).trans' HD18.out).trans' HD19.out).trans' HD20.out).trans' HD21.out).trans' HD22.out).trans' HD23.out)) (HQ14.out.ext (((((((((HD15.out).trans' HD16.out).trans' HD17.out).trans' HD18.out).trans' HD19.out).trans' HD20.out).trans' HD21.out).trans' HD22.out).trans' HD23.out)) (both (fits_size HF0.out) (fits_size HF1.out)) (both (listB_abs HB0.out) (listB_abs HB1.out))).mono ?_
      intro e w24 h
      unfold RetAddOf at h
      rw [if_pos ⟨setB_sorted HS0.out, setB_sorted HS1.out⟩] at h
      obtain ⟨v24, r24, rfl, ha, ho, hE⟩ := h
      obtain ⟨B24, d24, hv, hp⟩ := pown_len ho rfl
      subst hv
      have HQ24 := Lib.hid hp; clear hp
      have HD24 := Lib.hid hE
      have HA24 := Lib.hid ha
      have HX24 := Lib.hid (show r24.length ≤ n0 + n1 from by have := isAdd_len ha; rw [List.length_append, HL0.out, HL1.out] at this; exact this)
      clear hE ho ha
      go_wp2_with (fail)
      go_at_call 21
      refine (iAddOf B9 B12 r9.length d9 r12.length d12 r9 r12 _ rfl rfl (by have := HL0.out; have := HL1.out; have := HL2.out; have := H80.out; have := H81.out; have := H82.out; have := HX9.out; have := HX12.out; have := HX24.out; omega) (HQ9.out.ext (((((((((((((((HD10.out).trans' HD11.out).trans' HD12.out).trans' HD13.out).trans' HD14.out).trans' HD15.out).trans' HD16.out).trans' HD17.out).trans' HD18.out).trans' HD19.out).trans' HD20.out).trans' HD21.out).trans' HD22.out).trans' HD23.out).trans' HD24.out)) (HQ12.out.ext ((((((((((((HD13.out).trans' HD14.out).trans' HD15.out).trans' HD16.out).trans' HD17.out).trans' HD18.out).trans' HD19.out).trans' HD20.out).trans' HD21.out).trans' HD22.out).trans' HD23.out).trans' HD24.out)) (both (fun x hx => (HZ9.out x hx).2) (fun x hx => (HZ12.out x hx).2)) (both (fun x hx => by have := (HZ9.out x hx).1; omega) (fun x hx => by have := (HZ12.out x hx).1; omega))).mono ?_
      intro e w25 h
      unfold RetAddOf at h
      rw [if_pos ⟨strict_sorted (isB_strict HM9.out.1), strict_sorted (isB_strict HM12.out.1)⟩] at h
      obtain ⟨v25, r25, rfl, ha, ho, hE⟩ := h
      obtain rfl : r24 = r25 := lohi_sum HM9.out HM12.out HA24.out ha
      obtain ⟨B25, d25, hv, hp⟩ := pown_len ho rfl
      subst hv
      have HQ25 := Lib.hid hp; clear hp
      have HD25 := Lib.hid hE
      clear hE ho ha
      go_wp2_with (fail)
      have HBA := Lib.hid (isB_app HA24.out (setB_is HS0.out) (setB_is HS1.out))
      have HBI := Lib.hid (add_big HA24.out (both (fun x hx => by have := listB_mem HB0.out x hx; omega) (fun x hx => by have := listB_mem HB1.out x hx; omega)) (n := 16) (by rw [List.length_append]; have := HL0.out; have := HL1.out; have := HL2.out; have := H80.out; have := H81.out; have := H82.out; have := HX9.out; have := HX12.out; have := HX24.out; omega) (by omega))
      go_at_call 30
      refine (iEqualSet B24 B25 r24.length d24 r24.length d25 r24 r24 _ rfl rfl (by have := HL0.out; have := HL1.out; have := HL2.out; have := H80.out; have := H81.out; have := H82.out; have := HX9.out; have := HX12.out; have := HX24.out; omega) (by have := HL0.out; have := HL1.out; have := HL2.out; have := H80.out; have := H81.out; have := H82.out; have := HX9.out; have := HX12.out; have := HX24.out; omega) (HQ24.out.ext (HD25.out)) HQ25.out HBI.out HBI.out HBA.out HBA.out).mono ?_
      rintro e w26 ⟨rfl, hE⟩
      have HD26 := Lib.hid hE
      clear hE
      rw [decide_eq_true rfl]
      go_wp2_with (fail)
      go_at_call 24
      refine (sumAwake _).mono ?_
      rintro e w27 ⟨rfl, hE⟩
      have HD27 := Lib.hid hE
      clear hE
      go_wp2_with (fail)
      go_ret
      exact ⟨rfl, (((((((((((((((((((((((((((HD1.out).trans' HD2.out).trans' HD3.out).trans' HD4.out).trans' HD5.out).trans' HD6.out).trans' HD7.out).trans' HD8.out).trans' HD9.out).trans' HD10.out).trans' HD11.out).trans' HD12.out).trans' HD13.out).trans' HD14.out).trans' HD15.out).trans' HD16.out).trans' HD17.out).trans' HD18.out).trans' HD19.out).trans' HD20.out).trans' HD21.out).trans' HD22.out).trans' HD23.out).trans' HD24.out).trans' HD25.out).trans' HD26.out).trans' HD27.out)⟩
    · go_wp2_with (fail)
      cases q
      · go_wp2_with (fail)
        go_at_call 69
        refine (cAtMost2 B13 B15 n0 d13 n2 d15 l0 l2 _ HL0.out HL2.out (by have := HL0.out; have := HL1.out; have := HL2.out; have := H80.out; have := H81.out; have := H82.out; have := HX9.out; have := HX12.out; omega) (by have := HL0.out; have := HL1.out; have := HL2.out; have := H80.out; have := H81.out; have := H82.out; have := HX9.out; have := HX12.out; omega) (HQ13.out.ext ((((((((HD14.out).trans' HD15.out).trans' HD16.out).trans' HD17.out).trans' HD18.out).trans' HD19.out).trans' HD20.out).trans' HD21.out)) (HQ15.out.ext ((((((HD16.out).trans' HD17.out).trans' HD18.out).trans' HD19.out).trans' HD20.out).trans' HD21.out)) (both (listB_abs HB0.out) (listB_abs HB2.out)) (both (fits_size HF0.out) (fits_size HF2.out)) (setB_is HS0.out) (setB_is HS2.out)).mono ?_
        rintro e w22 ⟨rfl, hE⟩
        have HD22 := Lib.hid hE
        clear hE
        rw [← HVp.out]
        go_wp2_with (fail)
        go_at_call 69
        refine (cAtMost2 B14 B15 n1 d14 n2 d15 l1 l2 _ HL1.out HL2.out (by have := HL0.out; have := HL1.out; have := HL2.out; have := H80.out; have := H81.out; have := H82.out; have := HX9.out; have := HX12.out; omega) (by have := HL0.out; have := HL1.out; have := HL2.out; have := H80.out; have := H81.out; have := H82.out; have := HX9.out; have := HX12.out; omega) (HQ14.out.ext ((((((((HD15.out).trans' HD16.out).trans' HD17.out).trans' HD18.out).trans' HD19.out).trans' HD20.out).trans' HD21.out).trans' HD22.out)) (HQ15.out.ext (((((((HD16.out).trans' HD17.out).trans' HD18.out).trans' HD19.out).trans' HD20.out).trans' HD21.out).trans' HD22.out)) (both (listB_abs HB1.out) (listB_abs HB2.out)) (both (fits_size HF1.out) (fits_size HF2.out)) (setB_is HS1.out) (setB_is HS2.out)).mono ?_
        rintro e w23 ⟨rfl, hE⟩
        have HD23 := Lib.hid hE
        clear hE
        rw [← HVq.out]
        go_wp2_with (fail)
        go_at_call 69
        refine (cAtMost2 B12 B15 r12.length d12 n2 d15 r12 l2 _ rfl HL2.out (by have := HL0.out; have := HL1.out; have := HL2.out; have := H80.out; have := H81.out; have := H82.out; have := HX9.out; have := HX12.out; omega) (by have := HL0.out; have := HL1.out; have := HL2.out; have := H80.out; have := H81.out; have := H82.out; have := HX9.out; have := HX12.out; omega) (HQ12.out.ext (((((((((((HD13.out).trans' HD14.out).trans' HD15.out).trans' HD16.out).trans' HD17.out).trans' HD18.out).trans' HD19.out).trans' HD20.out).trans' HD21.out).trans' HD22.out).trans' HD23.out)) (HQ15.out.ext ((((((((HD16.out).trans' HD17.out).trans' HD18.out).trans' HD19.out).trans' HD20.out).trans' HD21.out).trans' HD22.out).trans' HD23.out)) (both (fun x hx => by have := (HZ12.out x hx).1; omega) (listB_abs HB2.out)) (both (fun x hx => (HZ12.out x hx).2) (fits_size HF2.out)) HM12.out.1 (setB_is HS2.out)).mono ?_
        rintro e w24 ⟨rfl, hE⟩
        have HD24 := Lib.hid hE
        clear hE
        rw [HPQ.out]
        go_wp2_with (fail)
        go_at_call 21
        refine (iAddOf B13 B14 n0 d13 n1 d14 l0 l1 _ HL0.out HL1.out (by have := HL0.out; have := HL1.out; have := HL2.out; have := H80.out; have := H81.out; have := H82.out; have := HX9.out; have := HX12.out; omega) (HQ13.out.ext (((((((((((HD14.out).trans' HD15.out).trans' HD16.out).trans' HD17.out).trans' HD18.out).trans' HD19.out).trans' HD20.out).trans' HD21.out).trans' HD22.out).trans' HD23.out).trans' HD24.out)) (HQ14.out.ext ((((((((((HD15.out).trans' HD16.out).trans' HD17.out).trans' HD18.out).trans' HD19.out).trans' HD20.out).trans' HD21.out).trans' HD22.out).trans' HD23.out).trans' HD24.out)) (both (fits_size HF0.out) (fits_size HF1.out)) (both (listB_abs HB0.out) (listB_abs HB1.out))).mono ?_
        intro e w25 h
        unfold RetAddOf at h
        rw [if_pos ⟨setB_sorted HS0.out, setB_sorted HS1.out⟩] at h
        obtain ⟨v25, r25, rfl, ha, ho, hE⟩ := h
        obtain ⟨B25, d25, hv, hp⟩ := pown_len ho rfl
        subst hv
        have HQ25 := Lib.hid hp; clear hp
        have HD25 := Lib.hid hE
        have HA25 := Lib.hid ha
        have HX25 := Lib.hid (show r25.length ≤ n0 + n1 from by have := isAdd_len ha; rw [List.length_append, HL0.out, HL1.out] at this; exact this)
        clear hE ho ha
        go_wp2_with (fail)
        go_at_call 21
        refine (iAddOf B9 B12 r9.length d9 r12.length d12 r9 r12 _ rfl rfl (by have := HL0.out; have := HL1.out; have := HL2.out; have := H80.out; have := H81.out; have := H82.out; have := HX9.out; have := HX12.out; have := HX25.out; omega) (HQ9.out.ext ((((((((((((((((HD10.out).trans' HD11.out).trans' HD12.out).trans' HD13.out).trans' HD14.out).trans' HD15.out).trans' HD16.out).trans' HD17.out).trans' HD18.out).trans' HD19.out).trans' HD20.out).trans' HD21.out).trans' HD22.out).trans' HD23.out).trans' HD24.out).trans' HD25.out)) (HQ12.out.ext (((((((((((((HD13.out).trans' HD14.out).trans' HD15.out).trans' HD16.out).trans' HD17.out).trans' HD18.out).trans' HD19.out).trans' HD20.out).trans' HD21.out).trans' HD22.out).trans' HD23.out).trans' HD24.out).trans' HD25.out)) (both (fun x hx => (HZ9.out x hx).2) (fun x hx => (HZ12.out x hx).2)) (both (fun x hx => by have := (HZ9.out x hx).1; omega) (fun x hx => by have := (HZ12.out x hx).1; omega))).mono ?_
        intro e w26 h
        unfold RetAddOf at h
        rw [if_pos ⟨strict_sorted (isB_strict HM9.out.1), strict_sorted (isB_strict HM12.out.1)⟩] at h
        obtain ⟨v26, r26, rfl, ha, ho, hE⟩ := h
        obtain rfl : r25 = r26 := lohi_sum HM9.out HM12.out HA25.out ha
        obtain ⟨B26, d26, hv, hp⟩ := pown_len ho rfl
        subst hv
        have HQ26 := Lib.hid hp; clear hp
        have HD26 := Lib.hid hE
        clear hE ho ha
        go_wp2_with (fail)
        have HBA := Lib.hid (isB_app HA25.out (setB_is HS0.out) (setB_is HS1.out))
        have HBI := Lib.hid (add_big HA25.out (both (fun x hx => by have := listB_mem HB0.out x hx; omega) (fun x hx => by have := listB_mem HB1.out x hx; omega)) (n := 16) (by rw [List.length_append]; have := HL0.out; have := HL1.out; have := HL2.out; have := H80.out; have := H81.out; have := H82.out; have := HX9.out; have := HX12.out; have := HX25.out; omega) (by omega))
        go_at_call 30
        refine (iEqualSet B25 B26 r25.length d25 r25.length d26 r25 r25 _ rfl rfl (by have := HL0.out; have := HL1.out; have := HL2.out; have := H80.out; have := H81.out; have := H82.out; have := HX9.out; have := HX12.out; have := HX25.out; omega) (by have := HL0.out; have := HL1.out; have := HL2.out; have := H80.out; have := H81.out; have := H82.out; have := HX9.out; have := HX12.out; have := HX25.out; omega) (HQ25.out.ext (HD26.out)) HQ26.out HBI.out HBI.out HBA.out HBA.out).mono ?_
        rintro e w27 ⟨rfl, hE⟩
        have HD27 := Lib.hid hE
        clear hE
        rw [decide_eq_true rfl]
        go_wp2_with (fail)
        go_at_call 24
        refine (sumAwake _).mono ?_
        rintro e w28 ⟨rfl, hE⟩
        have HD28 := Lib.hid hE
        clear hE
        go_wp2_with (fail)
        go_ret
        exact ⟨rfl, ((((((((((((((((((((((((((((HD1.out).trans' HD2.out).trans' HD3.out).trans' HD4.out).trans' HD5.out).trans' HD6.out).trans' HD7.out).trans' HD8.out).trans' HD9.out).trans' HD10.out).trans' HD11.out).trans' HD12.out).trans' HD13.out).trans' HD14.out).trans' HD15.out).trans' HD16.out).trans' HD17.out).trans' HD18.out).trans' HD19.out).trans' HD20.out).trans' HD21.out).trans' HD22.out).trans' HD23.out).trans' HD24.out).trans' HD25.out).trans' HD26.out).trans' HD27.out).trans' HD28.out)⟩
      · go_wp2_with (fail)
        go_at_call 69
        refine (cAtMost2 B13 B15 n0 d13 n2 d15 l0 l2 _ HL0.out HL2.out (by have := HL0.out; have := HL1.out; have := HL2.out; have := H80.out; have := H81.out; have := H82.out; have := HX9.out; have := HX12.out; omega) (by have := HL0.out; have := HL1.out; have := HL2.out; have := H80.out; have := H81.out; have := H82.out; have := HX9.out; have := HX12.out; omega) (HQ13.out.ext ((((((((HD14.out).trans' HD15.out).trans' HD16.out).trans' HD17.out).trans' HD18.out).trans' HD19.out).trans' HD20.out).trans' HD21.out)) (HQ15.out.ext ((((((HD16.out).trans' HD17.out).trans' HD18.out).trans' HD19.out).trans' HD20.out).trans' HD21.out)) (both (listB_abs HB0.out) (listB_abs HB2.out)) (both (fits_size HF0.out) (fits_size HF2.out)) (setB_is HS0.out) (setB_is HS2.out)).mono ?_
        rintro e w22 ⟨rfl, hE⟩
        have HD22 := Lib.hid hE
        clear hE
        rw [← HVp.out]
        go_wp2_with (fail)
        go_at_call 69
        refine (cAtMost2 B14 B15 n1 d14 n2 d15 l1 l2 _ HL1.out HL2.out (by have := HL0.out; have := HL1.out; have := HL2.out; have := H80.out; have := H81.out; have := H82.out; have := HX9.out; have := HX12.out; omega) (by have := HL0.out; have := HL1.out; have := HL2.out; have := H80.out; have := H81.out; have := H82.out; have := HX9.out; have := HX12.out; omega) (HQ14.out.ext ((((((((HD15.out).trans' HD16.out).trans' HD17.out).trans' HD18.out).trans' HD19.out).trans' HD20.out).trans' HD21.out).trans' HD22.out)) (HQ15.out.ext (((((((HD16.out).trans' HD17.out).trans' HD18.out).trans' HD19.out).trans' HD20.out).trans' HD21.out).trans' HD22.out)) (both (listB_abs HB1.out) (listB_abs HB2.out)) (both (fits_size HF1.out) (fits_size HF2.out)) (setB_is HS1.out) (setB_is HS2.out)).mono ?_
        rintro e w23 ⟨rfl, hE⟩
        have HD23 := Lib.hid hE
        clear hE
        rw [← HVq.out]
        go_wp2_with (fail)
        go_at_call 69
        refine (cAtMost2 B12 B15 r12.length d12 n2 d15 r12 l2 _ rfl HL2.out (by have := HL0.out; have := HL1.out; have := HL2.out; have := H80.out; have := H81.out; have := H82.out; have := HX9.out; have := HX12.out; omega) (by have := HL0.out; have := HL1.out; have := HL2.out; have := H80.out; have := H81.out; have := H82.out; have := HX9.out; have := HX12.out; omega) (HQ12.out.ext (((((((((((HD13.out).trans' HD14.out).trans' HD15.out).trans' HD16.out).trans' HD17.out).trans' HD18.out).trans' HD19.out).trans' HD20.out).trans' HD21.out).trans' HD22.out).trans' HD23.out)) (HQ15.out.ext ((((((((HD16.out).trans' HD17.out).trans' HD18.out).trans' HD19.out).trans' HD20.out).trans' HD21.out).trans' HD22.out).trans' HD23.out)) (both (fun x hx => by have := (HZ12.out x hx).1; omega) (listB_abs HB2.out)) (both (fun x hx => (HZ12.out x hx).2) (fits_size HF2.out)) HM12.out.1 (setB_is HS2.out)).mono ?_
        rintro e w24 ⟨rfl, hE⟩
        have HD24 := Lib.hid hE
        clear hE
        rw [HPQ.out]
        go_wp2_with (fail)
        go_at_call 21
        refine (iAddOf B13 B14 n0 d13 n1 d14 l0 l1 _ HL0.out HL1.out (by have := HL0.out; have := HL1.out; have := HL2.out; have := H80.out; have := H81.out; have := H82.out; have := HX9.out; have := HX12.out; omega) (HQ13.out.ext (((((((((((HD14.out).trans' HD15.out).trans' HD16.out).trans' HD17.out).trans' HD18.out).trans' HD19.out).trans' HD20.out).trans' HD21.out).trans' HD22.out).trans' HD23.out).trans' HD24.out)) (HQ14.out.ext ((((((((((HD15.out).trans' HD16.out).trans' HD17.out).trans' HD18.out).trans' HD19.out).trans' HD20.out).trans' HD21.out).trans' HD22.out).trans' HD23.out).trans' HD24.out)) (both (fits_size HF0.out) (fits_size HF1.out)) (both (listB_abs HB0.out) (listB_abs HB1.out))).mono ?_
        intro e w25 h
        unfold RetAddOf at h
        rw [if_pos ⟨setB_sorted HS0.out, setB_sorted HS1.out⟩] at h
        obtain ⟨v25, r25, rfl, ha, ho, hE⟩ := h
        obtain ⟨B25, d25, hv, hp⟩ := pown_len ho rfl
        subst hv
        have HQ25 := Lib.hid hp; clear hp
        have HD25 := Lib.hid hE
        have HA25 := Lib.hid ha
        have HX25 := Lib.hid (show r25.length ≤ n0 + n1 from by have := isAdd_len ha; rw [List.length_append, HL0.out, HL1.out] at this; exact this)
        clear hE ho ha
        go_wp2_with (fail)
        go_at_call 21
        refine (iAddOf B9 B12 r9.length d9 r12.length d12 r9 r12 _ rfl rfl (by have := HL0.out; have := HL1.out; have := HL2.out; have := H80.out; have := H81.out; have := H82.out; have := HX9.out; have := HX12.out; have := HX25.out; omega) (HQ9.out.ext ((((((((((((((((HD10.out).trans' HD11.out).trans' HD12.out).trans' HD13.out).trans' HD14.out).trans' HD15.out).trans' HD16.out).trans' HD17.out).trans' HD18.out).trans' HD19.out).trans' HD20.out).trans' HD21.out).trans' HD22.out).trans' HD23.out).trans' HD24.out).trans' HD25.out)) (HQ12.out.ext (((((((((((((HD13.out).trans' HD14.out).trans' HD15.out).trans' HD16.out).trans' HD17.out).trans' HD18.out).trans' HD19.out).trans' HD20.out).trans' HD21.out).trans' HD22.out).trans' HD23.out).trans' HD24.out).trans' HD25.out)) (both (fun x hx => (HZ9.out x hx).2) (fun x hx => (HZ12.out x hx).2)) (both (fun x hx => by have := (HZ9.out x hx).1; omega) (fun x hx => by have := (HZ12.out x hx).1; omega))).mono ?_
        intro e w26 h
        unfold RetAddOf at h
        rw [if_pos ⟨strict_sorted (isB_strict HM9.out.1), strict_sorted (isB_strict HM12.out.1)⟩] at h
        obtain ⟨v26, r26, rfl, ha, ho, hE⟩ := h
        obtain rfl : r25 = r26 := lohi_sum HM9.out HM12.out HA25.out ha
        obtain ⟨B26, d26, hv, hp⟩ := pown_len ho rfl
        subst hv
        have HQ26 := Lib.hid hp; clear hp
        have HD26 := Lib.hid hE
        clear hE ho ha
        go_wp2_with (fail)
        have HBA := Lib.hid (isB_app HA25.out (setB_is HS0.out) (setB_is HS1.out))
        have HBI := Lib.hid (add_big HA25.out (both (fun x hx => by have := listB_mem HB0.out x hx; omega) (fun x hx => by have := listB_mem HB1.out x hx; omega)) (n := 16) (by rw [List.length_append]; have := HL0.out; have := HL1.out; have := HL2.out; have := H80.out; have := H81.out; have := H82.out; have := HX9.out; have := HX12.out; have := HX25.out; omega) (by omega))
        go_at_call 30
        refine (iEqualSet B25 B26 r25.length d25 r25.length d26 r25 r25 _ rfl rfl (by have := HL0.out; have := HL1.out; have := HL2.out; have := H80.out; have := H81.out; have := H82.out; have := HX9.out; have := HX12.out; have := HX25.out; omega) (by have := HL0.out; have := HL1.out; have := HL2.out; have := H80.out; have := H81.out; have := H82.out; have := HX9.out; have := HX12.out; have := HX25.out; omega) (HQ25.out.ext (HD26.out)) HQ26.out HBI.out HBI.out HBA.out HBA.out).mono ?_
        rintro e w27 ⟨rfl, hE⟩
        have HD27 := Lib.hid hE
        clear hE
        rw [decide_eq_true rfl]
        go_wp2_with (fail)
        go_at_call 24
        refine (sumAwake _).mono ?_
        rintro e w28 ⟨rfl, hE⟩
        have HD28 := Lib.hid hE
        clear hE
        go_wp2_with (fail)
        go_ret
        exact ⟨rfl, ((((((((((((((((((((((((((((HD1.out).trans' HD2.out).trans' HD3.out).trans' HD4.out).trans' HD5.out).trans' HD6.out).trans' HD7.out).trans' HD8.out).trans' HD9.out).trans' HD10.out).trans' HD11.out).trans' HD12.out).trans' HD13.out).trans' HD14.out).trans' HD15.out).trans' HD16.out).trans' HD17.out).trans' HD18.out).trans' HD19.out).trans' HD20.out).trans' HD21.out).trans' HD22.out).trans' HD23.out).trans' HD24.out).trans' HD25.out).trans' HD26.out).trans' HD27.out).trans' HD28.out)⟩
  · go_wp2_with (fail)
    cases v
    · go_wp2_with (fail)
      go_at_call 69
      refine (cAtMost2 B15 B13 n2 d15 n0 d13 l2 l0 _ HL2.out HL0.out (by have := HL0.out; have := HL1.out; have := HL2.out; have := H80.out; have := H81.out; have := H82.out; have := HX9.out; have := HX12.out; omega) (by have := HL0.out; have := HL1.out; have := HL2.out; have := H80.out; have := H81.out; have := H82.out; have := HX9.out; have := HX12.out; omega) (HQ15.out.ext ((((HD16.out).trans' HD17.out).trans' HD18.out).trans' HD19.out)) (HQ13.out.ext ((((((HD14.out).trans' HD15.out).trans' HD16.out).trans' HD17.out).trans' HD18.out).trans' HD19.out)) (both (listB_abs HB2.out) (listB_abs HB0.out)) (both (fits_size HF2.out) (fits_size HF0.out)) (setB_is HS2.out) (setB_is HS0.out)).mono ?_
      rintro e w20 ⟨rfl, hE⟩
      have HD20 := Lib.hid hE
      clear hE
      rw [← HVu.out]
      go_wp2_with (fail)
      go_at_call 69
      refine (cAtMost2 B15 B14 n2 d15 n1 d14 l2 l1 _ HL2.out HL1.out (by have := HL0.out; have := HL1.out; have := HL2.out; have := H80.out; have := H81.out; have := H82.out; have := HX9.out; have := HX12.out; omega) (by have := HL0.out; have := HL1.out; have := HL2.out; have := H80.out; have := H81.out; have := H82.out; have := HX9.out; have := HX12.out; omega) (HQ15.out.ext (((((HD16.out).trans' HD17.out).trans' HD18.out).trans' HD19.out).trans' HD20.out)) (HQ14.out.ext ((((((HD15.out).trans' HD16.out).trans' HD17.out).trans' HD18.out).trans' HD19.out).trans' HD20.out)) (both (listB_abs HB2.out) (listB_abs HB1.out)) (both (fits_size HF2.out) (fits_size HF1.out)) (setB_is HS2.out) (setB_is HS1.out)).mono ?_
      rintro e w21 ⟨rfl, hE⟩
      have HD21 := Lib.hid hE
      clear hE
      rw [← HVv.out]
      go_wp2_with (fail)
      go_at_call 69
      refine (cAtMost2 B15 B9 n2 d15 r9.length d9 l2 r9 _ HL2.out rfl (by have := HL0.out; have := HL1.out; have := HL2.out; have := H80.out; have := H81.out; have := H82.out; have := HX9.out; have := HX12.out; omega) (by have := HL0.out; have := HL1.out; have := HL2.out; have := H80.out; have := H81.out; have := H82.out; have := HX9.out; have := HX12.out; omega) (HQ15.out.ext ((((((HD16.out).trans' HD17.out).trans' HD18.out).trans' HD19.out).trans' HD20.out).trans' HD21.out)) (HQ9.out.ext ((((((((((((HD10.out).trans' HD11.out).trans' HD12.out).trans' HD13.out).trans' HD14.out).trans' HD15.out).trans' HD16.out).trans' HD17.out).trans' HD18.out).trans' HD19.out).trans' HD20.out).trans' HD21.out)) (both (listB_abs HB2.out) (fun x hx => by have := (HZ9.out x hx).1; omega)) (both (fits_size HF2.out) (fun x hx => (HZ9.out x hx).2)) (setB_is HS2.out) HM9.out.1).mono ?_
      rintro e w22 ⟨rfl, hE⟩
      have HD22 := Lib.hid hE
      clear hE
      rw [HUV.out]
      go_wp2_with (fail)
      cases p
      · go_wp2_with (fail)
        go_at_call 69
        refine (cAtMost2 B13 B15 n0 d13 n2 d15 l0 l2 _ HL0.out HL2.out (by have := HL0.out; have := HL1.out; have := HL2.out; have := H80.out; have := H81.out; have := H82.out; have := HX9.out; have := HX12.out; omega) (by have := HL0.out; have := HL1.out; have := HL2.out; have := H80.out; have := H81.out; have := H82.out; have := HX9.out; have := HX12.out; omega) (HQ13.out.ext (((((((((HD14.out).trans' HD15.out).trans' HD16.out).trans' HD17.out).trans' HD18.out).trans' HD19.out).trans' HD20.out).trans' HD21.out).trans' HD22.out)) (HQ15.out.ext (((((((HD16.out).trans' HD17.out).trans' HD18.out).trans' HD19.out).trans' HD20.out).trans' HD21.out).trans' HD22.out)) (both (listB_abs HB0.out) (listB_abs HB2.out)) (both (fits_size HF0.out) (fits_size HF2.out)) (setB_is HS0.out) (setB_is HS2.out)).mono ?_
        rintro e w23 ⟨rfl, hE⟩
        have HD23 := Lib.hid hE
        clear hE
        rw [← HVp.out]
        go_wp2_with (fail)
        go_at_call 69
        refine (cAtMost2 B12 B15 r12.length d12 n2 d15 r12 l2 _ rfl HL2.out (by have := HL0.out; have := HL1.out; have := HL2.out; have := H80.out; have := H81.out; have := H82.out; have := HX9.out; have := HX12.out; omega) (by have := HL0.out; have := HL1.out; have := HL2.out; have := H80.out; have := H81.out; have := H82.out; have := HX9.out; have := HX12.out; omega) (HQ12.out.ext (((((((((((HD13.out).trans' HD14.out).trans' HD15.out).trans' HD16.out).trans' HD17.out).trans' HD18.out).trans' HD19.out).trans' HD20.out).trans' HD21.out).trans' HD22.out).trans' HD23.out)) (HQ15.out.ext ((((((((HD16.out).trans' HD17.out).trans' HD18.out).trans' HD19.out).trans' HD20.out).trans' HD21.out).trans' HD22.out).trans' HD23.out)) (both (fun x hx => by have := (HZ12.out x hx).1; omega) (listB_abs HB2.out)) (both (fun x hx => (HZ12.out x hx).2) (fits_size HF2.out)) HM12.out.1 (setB_is HS2.out)).mono ?_
        rintro e w24 ⟨rfl, hE⟩
        have HD24 := Lib.hid hE
        clear hE
        rw [HPQ.out]
        go_wp2_with (fail)
        go_at_call 21
        refine (iAddOf B13 B14 n0 d13 n1 d14 l0 l1 _ HL0.out HL1.out (by have := HL0.out; have := HL1.out; have := HL2.out; have := H80.out; have := H81.out; have := H82.out; have := HX9.out; have := HX12.out; omega) (HQ13.out.ext (((((((((((HD14.out).trans' HD15.out).trans' HD16.out).trans' HD17.out).trans' HD18.out).trans' HD19.out).trans' HD20.out).trans' HD21.out).trans' HD22.out).trans' HD23.out).trans' HD24.out)) (HQ14.out.ext ((((((((((HD15.out).trans' HD16.out).trans' HD17.out).trans' HD18.out).trans' HD19.out).trans' HD20.out).trans' HD21.out).trans' HD22.out).trans' HD23.out).trans' HD24.out)) (both (fits_size HF0.out) (fits_size HF1.out)) (both (listB_abs HB0.out) (listB_abs HB1.out))).mono ?_
        intro e w25 h
        unfold RetAddOf at h
        rw [if_pos ⟨setB_sorted HS0.out, setB_sorted HS1.out⟩] at h
        obtain ⟨v25, r25, rfl, ha, ho, hE⟩ := h
        obtain ⟨B25, d25, hv, hp⟩ := pown_len ho rfl
        subst hv
        have HQ25 := Lib.hid hp; clear hp
        have HD25 := Lib.hid hE
        have HA25 := Lib.hid ha
        have HX25 := Lib.hid (show r25.length ≤ n0 + n1 from by have := isAdd_len ha; rw [List.length_append, HL0.out, HL1.out] at this; exact this)
        clear hE ho ha
        go_wp2_with (fail)
        go_at_call 21
        refine (iAddOf B9 B12 r9.length d9 r12.length d12 r9 r12 _ rfl rfl (by have := HL0.out; have := HL1.out; have := HL2.out; have := H80.out; have := H81.out; have := H82.out; have := HX9.out; have := HX12.out; have := HX25.out; omega) (HQ9.out.ext ((((((((((((((((HD10.out).trans' HD11.out).trans' HD12.out).trans' HD13.out).trans' HD14.out).trans' HD15.out).trans' HD16.out).trans' HD17.out).trans' HD18.out).trans' HD19.out).trans' HD20.out).trans' HD21.out).trans' HD22.out).trans' HD23.out).trans' HD24.out).trans' HD25.out)) (HQ12.out.ext (((((((((((((HD13.out).trans' HD14.out).trans' HD15.out).trans' HD16.out).trans' HD17.out).trans' HD18.out).trans' HD19.out).trans' HD20.out).trans' HD21.out).trans' HD22.out).trans' HD23.out).trans' HD24.out).trans' HD25.out)) (both (fun x hx => (HZ9.out x hx).2) (fun x hx => (HZ12.out x hx).2)) (both (fun x hx => by have := (HZ9.out x hx).1; omega) (fun x hx => by have := (HZ12.out x hx).1; omega))).mono ?_
        intro e w26 h
        unfold RetAddOf at h
        rw [if_pos ⟨strict_sorted (isB_strict HM9.out.1), strict_sorted (isB_strict HM12.out.1)⟩] at h
        obtain ⟨v26, r26, rfl, ha, ho, hE⟩ := h
        obtain rfl : r25 = r26 := lohi_sum HM9.out HM12.out HA25.out ha
        obtain ⟨B26, d26, hv, hp⟩ := pown_len ho rfl
        subst hv
        have HQ26 := Lib.hid hp; clear hp
        have HD26 := Lib.hid hE
        clear hE ho ha
        go_wp2_with (fail)
        have HBA := Lib.hid (isB_app HA25.out (setB_is HS0.out) (setB_is HS1.out))
        have HBI := Lib.hid (add_big HA25.out (both (fun x hx => by have := listB_mem HB0.out x hx; omega) (fun x hx => by have := listB_mem HB1.out x hx; omega)) (n := 16) (by rw [List.length_append]; have := HL0.out; have := HL1.out; have := HL2.out; have := H80.out; have := H81.out; have := H82.out; have := HX9.out; have := HX12.out; have := HX25.out; omega) (by omega))
        go_at_call 30
        refine (iEqualSet B25 B26 r25.length d25 r25.length d26 r25 r25 _ rfl rfl (by have := HL0.out; have := HL1.out; have := HL2.out; have := H80.out; have := H81.out; have := H82.out; have := HX9.out; have := HX12.out; have := HX25.out; omega) (by have := HL0.out; have := HL1.out; have := HL2.out; have := H80.out; have := H81.out; have := H82.out; have := HX9.out; have := HX12.out; have := HX25.out; omega) (HQ25.out.ext (HD26.out)) HQ26.out HBI.out HBI.out HBA.out HBA.out).mono ?_
        rintro e w27 ⟨rfl, hE⟩
        have HD27 := Lib.hid hE
        clear hE
        rw [decide_eq_true rfl]
        go_wp2_with (fail)
        go_at_call 24
        refine (sumAwake _).mono ?_
        rintro e w28 ⟨rfl, hE⟩
        have HD28 := Lib.hid hE
        clear hE
        go_wp2_with (fail)
        go_ret
        exact ⟨rfl, ((((((((((((((((((((((((((((HD1.out).trans' HD2.out).trans' HD3.out).trans' HD4.out).trans' HD5.out).trans' HD6.out).trans' HD7.out).trans' HD8.out).trans' HD9.out).trans' HD10.out).trans' HD11.out).trans' HD12.out).trans' HD13.out).trans' HD14.out).trans' HD15.out).trans' HD16.out).trans' HD17.out).trans' HD18.out).trans' HD19.out).trans' HD20.out).trans' HD21.out).trans' HD22.out).trans' HD23.out).trans' HD24.out).trans' HD25.out).trans' HD26.out).trans' HD27.out).trans' HD28.out)⟩
      · go_wp2_with (fail)
        cases q
        · go_wp2_with (fail)
          go_at_call 69
          refine (cAtMost2 B13 B15 n0 d13 n2 d15 l0 l2 _ HL0.out HL2.out (by have := HL0.out; have := HL1.out; have := HL2.out; have := H80.out; have := H81.out; have := H82.out; have := HX9.out; have := HX12.out; omega) (by have := HL0.out; have := HL1.out; have := HL2.out; have := H80.out; have := H81.out; have := H82.out; have := HX9.out; have := HX12.out; omega) (HQ13.out.ext (((((((((HD14.out).trans' HD15.out).trans' HD16.out).trans' HD17.out).trans' HD18.out).trans' HD19.out).trans' HD20.out).trans' HD21.out).trans' HD22.out)) (HQ15.out.ext (((((((HD16.out).trans' HD17.out).trans' HD18.out).trans' HD19.out).trans' HD20.out).trans' HD21.out).trans' HD22.out)) (both (listB_abs HB0.out) (listB_abs HB2.out)) (both (fits_size HF0.out) (fits_size HF2.out)) (setB_is HS0.out) (setB_is HS2.out)).mono ?_
          rintro e w23 ⟨rfl, hE⟩
          have HD23 := Lib.hid hE
          clear hE
          rw [← HVp.out]
          go_wp2_with (fail)
          go_at_call 69
          refine (cAtMost2 B14 B15 n1 d14 n2 d15 l1 l2 _ HL1.out HL2.out (by have := HL0.out; have := HL1.out; have := HL2.out; have := H80.out; have := H81.out; have := H82.out; have := HX9.out; have := HX12.out; omega) (by have := HL0.out; have := HL1.out; have := HL2.out; have := H80.out; have := H81.out; have := H82.out; have := HX9.out; have := HX12.out; omega) (HQ14.out.ext (((((((((HD15.out).trans' HD16.out).trans' HD17.out).trans' HD18.out).trans' HD19.out).trans' HD20.out).trans' HD21.out).trans' HD22.out).trans' HD23.out)) (HQ15.out.ext ((((((((HD16.out).trans' HD17.out).trans' HD18.out).trans' HD19.out).trans' HD20.out).trans' HD21.out).trans' HD22.out).trans' HD23.out)) (both (listB_abs HB1.out) (listB_abs HB2.out)) (both (fits_size HF1.out) (fits_size HF2.out)) (setB_is HS1.out) (setB_is HS2.out)).mono ?_
          rintro e w24 ⟨rfl, hE⟩
          have HD24 := Lib.hid hE
          clear hE
          rw [← HVq.out]
          go_wp2_with (fail)
          go_at_call 69
          refine (cAtMost2 B12 B15 r12.length d12 n2 d15 r12 l2 _ rfl HL2.out (by have := HL0.out; have := HL1.out; have := HL2.out; have := H80.out; have := H81.out; have := H82.out; have := HX9.out; have := HX12.out; omega) (by have := HL0.out; have := HL1.out; have := HL2.out; have := H80.out; have := H81.out; have := H82.out; have := HX9.out; have := HX12.out; omega) (HQ12.out.ext ((((((((((((HD13.out).trans' HD14.out).trans' HD15.out).trans' HD16.out).trans' HD17.out).trans' HD18.out).trans' HD19.out).trans' HD20.out).trans' HD21.out).trans' HD22.out).trans' HD23.out).trans' HD24.out)) (HQ15.out.ext (((((((((HD16.out).trans' HD17.out).trans' HD18.out).trans' HD19.out).trans' HD20.out).trans' HD21.out).trans' HD22.out).trans' HD23.out).trans' HD24.out)) (both (fun x hx => by have := (HZ12.out x hx).1; omega) (listB_abs HB2.out)) (both (fun x hx => (HZ12.out x hx).2) (fits_size HF2.out)) HM12.out.1 (setB_is HS2.out)).mono ?_
          rintro e w25 ⟨rfl, hE⟩
          have HD25 := Lib.hid hE
          clear hE
          rw [HPQ.out]
          go_wp2_with (fail)
          go_at_call 21
          refine (iAddOf B13 B14 n0 d13 n1 d14 l0 l1 _ HL0.out HL1.out (by have := HL0.out; have := HL1.out; have := HL2.out; have := H80.out; have := H81.out; have := H82.out; have := HX9.out; have := HX12.out; omega) (HQ13.out.ext ((((((((((((HD14.out).trans' HD15.out).trans' HD16.out).trans' HD17.out).trans' HD18.out).trans' HD19.out).trans' HD20.out).trans' HD21.out).trans' HD22.out).trans' HD23.out).trans' HD24.out).trans' HD25.out)) (HQ14.out.ext (((((((((((HD15.out).trans' HD16.out).trans' HD17.out).trans' HD18.out).trans' HD19.out).trans' HD20.out).trans' HD21.out).trans' HD22.out).trans' HD23.out).trans' HD24.out).trans' HD25.out)) (both (fits_size HF0.out) (fits_size HF1.out)) (both (listB_abs HB0.out) (listB_abs HB1.out))).mono ?_
          intro e w26 h
          unfold RetAddOf at h
          rw [if_pos ⟨setB_sorted HS0.out, setB_sorted HS1.out⟩] at h
          obtain ⟨v26, r26, rfl, ha, ho, hE⟩ := h
          obtain ⟨B26, d26, hv, hp⟩ := pown_len ho rfl
          subst hv
          have HQ26 := Lib.hid hp; clear hp
          have HD26 := Lib.hid hE
          have HA26 := Lib.hid ha
          have HX26 := Lib.hid (show r26.length ≤ n0 + n1 from by have := isAdd_len ha; rw [List.length_append, HL0.out, HL1.out] at this; exact this)
          clear hE ho ha
          go_wp2_with (fail)
          go_at_call 21
          refine (iAddOf B9 B12 r9.length d9 r12.length d12 r9 r12 _ rfl rfl (by have := HL0.out; have := HL1.out; have := HL2.out; have := H80.out; have := H81.out; have := H82.out; have := HX9.out; have := HX12.out; have := HX26.out; omega) (HQ9.out.ext (((((((((((((((((HD10.out).trans' HD11.out).trans' HD12.out).trans' HD13.out).trans' HD14.out).trans' HD15.out).trans' HD16.out).trans' HD17.out).trans' HD18.out).trans' HD19.out).trans' HD20.out).trans' HD21.out).trans' HD22.out).trans' HD23.out).trans' HD24.out).trans' HD25.out).trans' HD26.out)) (HQ12.out.ext ((((((((((((((HD13.out).trans' HD14.out).trans' HD15.out).trans' HD16.out).trans' HD17.out).trans' HD18.out).trans' HD19.out).trans' HD20.out).trans' HD21.out).trans' HD22.out).trans' HD23.out).trans' HD24.out).trans' HD25.out).trans' HD26.out)) (both (fun x hx => (HZ9.out x hx).2) (fun x hx => (HZ12.out x hx).2)) (both (fun x hx => by have := (HZ9.out x hx).1; omega) (fun x hx => by have := (HZ12.out x hx).1; omega))).mono ?_
          intro e w27 h
          unfold RetAddOf at h
          rw [if_pos ⟨strict_sorted (isB_strict HM9.out.1), strict_sorted (isB_strict HM12.out.1)⟩] at h
          obtain ⟨v27, r27, rfl, ha, ho, hE⟩ := h
          obtain rfl : r26 = r27 := lohi_sum HM9.out HM12.out HA26.out ha
          obtain ⟨B27, d27, hv, hp⟩ := pown_len ho rfl
          subst hv
          have HQ27 := Lib.hid hp; clear hp
          have HD27 := Lib.hid hE
          clear hE ho ha
          go_wp2_with (fail)
          have HBA := Lib.hid (isB_app HA26.out (setB_is HS0.out) (setB_is HS1.out))
          have HBI := Lib.hid (add_big HA26.out (both (fun x hx => by have := listB_mem HB0.out x hx; omega) (fun x hx => by have := listB_mem HB1.out x hx; omega)) (n := 16) (by rw [List.length_append]; have := HL0.out; have := HL1.out; have := HL2.out; have := H80.out; have := H81.out; have := H82.out; have := HX9.out; have := HX12.out; have := HX26.out; omega) (by omega))
          go_at_call 30
          refine (iEqualSet B26 B27 r26.length d26 r26.length d27 r26 r26 _ rfl rfl (by have := HL0.out; have := HL1.out; have := HL2.out; have := H80.out; have := H81.out; have := H82.out; have := HX9.out; have := HX12.out; have := HX26.out; omega) (by have := HL0.out; have := HL1.out; have := HL2.out; have := H80.out; have := H81.out; have := H82.out; have := HX9.out; have := HX12.out; have := HX26.out; omega) (HQ26.out.ext (HD27.out)) HQ27.out HBI.out HBI.out HBA.out HBA.out).mono ?_
          rintro e w28 ⟨rfl, hE⟩
          have HD28 := Lib.hid hE
          clear hE
          rw [decide_eq_true rfl]
          go_wp2_with (fail)
          go_at_call 24
          refine (sumAwake _).mono ?_
          rintro e w29 ⟨rfl, hE⟩
          have HD29 := Lib.hid hE
          clear hE
          go_wp2_with (fail)
          go_ret
          exact ⟨rfl, (((((((((((((((((((((((((((((HD1.out).trans' HD2.out).trans' HD3.out).trans' HD4.out).trans' HD5.out).trans' HD6.out).trans' HD7.out).trans' HD8.out).trans' HD9.out).trans' HD10.out).trans' HD11.out).trans' HD12.out).trans' HD13.out).trans' HD14.out).trans' HD15.out).trans' HD16.out).trans' HD17.out).trans' HD18.out).trans' HD19.out).trans' HD20.out).trans' HD21.out).trans' HD22.out).trans' HD23.out).trans' HD24.out).trans' HD25.out).trans' HD26.out).trans' HD27.out).trans' HD28.out).trans' HD29.out)⟩
        · go_wp2_with (fail)
          go_at_call 69
          refine (cAtMost2 B13 B15 n0 d13 n2 d15 l0 l2 _ HL0.out HL2.out (by have := HL0.out; have := HL1.out; have := HL2.out; have := H80.out; have := H81.out; have := H82.out; have := HX9.out; have := HX12.out; omega) (by have := HL0.out; have := HL1.out; have := HL2.out; have := H80.out; have := H81.out; have := H82.out; have := HX9.out; have := HX12.out; omega) (HQ13.out.ext (((((((((HD14.out).trans' HD15.out).trans' HD16.out).trans' HD17.out).trans' HD18.out).trans' HD19.out).trans' HD20.out).trans' HD21.out).trans' HD22.out)) (HQ15.out.ext (((((((HD16.out).trans' HD17.out).trans' HD18.out).trans' HD19.out).trans' HD20.out).trans' HD21.out).trans' HD22.out)) (both (listB_abs HB0.out) (listB_abs HB2.out)) (both (fits_size HF0.out) (fits_size HF2.out)) (setB_is HS0.out) (setB_is HS2.out)).mono ?_
          rintro e w23 ⟨rfl, hE⟩
          have HD23 := Lib.hid hE
          clear hE
          rw [← HVp.out]
          go_wp2_with (fail)
          go_at_call 69
          refine (cAtMost2 B14 B15 n1 d14 n2 d15 l1 l2 _ HL1.out HL2.out (by have := HL0.out; have := HL1.out; have := HL2.out; have := H80.out; have := H81.out; have := H82.out; have := HX9.out; have := HX12.out; omega) (by have := HL0.out; have := HL1.out; have := HL2.out; have := H80.out; have := H81.out; have := H82.out; have := HX9.out; have := HX12.out; omega) (HQ14.out.ext (((((((((HD15.out).trans' HD16.out).trans' HD17.out).trans' HD18.out).trans' HD19.out).trans' HD20.out).trans' HD21.out).trans' HD22.out).trans' HD23.out)) (HQ15.out.ext ((((((((HD16.out).trans' HD17.out).trans' HD18.out).trans' HD19.out).trans' HD20.out).trans' HD21.out).trans' HD22.out).trans' HD23.out)) (both (listB_abs HB1.out) (listB_abs HB2.out)) (both (fits_size HF1.out) (fits_size HF2.out)) (setB_is HS1.out) (setB_is HS2.out)).mono ?_
          rintro e w24 ⟨rfl, hE⟩
          have HD24 := Lib.hid hE
          clear hE
          rw [← HVq.out]
          go_wp2_with (fail)
          go_at_call 69
          refine (cAtMost2 B12 B15 r12.length d12 n2 d15 r12 l2 _ rfl HL2.out (by have := HL0.out; have := HL1.out; have := HL2.out; have := H80.out; have := H81.out; have := H82.out; have := HX9.out; have := HX12.out; omega) (by have := HL0.out; have := HL1.out; have := HL2.out; have := H80.out; have := H81.out; have := H82.out; have := HX9.out; have := HX12.out; omega) (HQ12.out.ext ((((((((((((HD13.out).trans' HD14.out).trans' HD15.out).trans' HD16.out).trans' HD17.out).trans' HD18.out).trans' HD19.out).trans' HD20.out).trans' HD21.out).trans' HD22.out).trans' HD23.out).trans' HD24.out)) (HQ15.out.ext (((((((((HD16.out).trans' HD17.out).trans' HD18.out).trans' HD19.out).trans' HD20.out).trans' HD21.out).trans' HD22.out).trans' HD23.out).trans' HD24.out)) (both (fun x hx => by have := (HZ12.out x hx).1; omega) (listB_abs HB2.out)) (both (fun x hx => (HZ12.out x hx).2) (fits_size HF2.out)) HM12.out.1 (setB_is HS2.out)).mono ?_
          rintro e w25 ⟨rfl, hE⟩
          have HD25 := Lib.hid hE
          clear hE
          rw [HPQ.out]
          go_wp2_with (fail)
          go_at_call 21
          refine (iAddOf B13 B14 n0 d13 n1 d14 l0 l1 _ HL0.out HL1.out (by have := HL0.out; have := HL1.out; have := HL2.out; have := H80.out; have := H81.out; have := H82.out; have := HX9.out; have := HX12.out; omega) (HQ13.out.ext ((((((((((((HD14.out).trans' HD15.out).trans' HD16.out).trans' HD17.out).trans' HD18.out).trans' HD19.out).trans' HD20.out).trans' HD21.out).trans' HD22.out).trans' HD23.out).trans' HD24.out).trans' HD25.out)) (HQ14.out.ext (((((((((((HD15.out).trans' HD16.out).trans' HD17.out).trans' HD18.out).trans' HD19.out).trans' HD20.out).trans' HD21.out).trans' HD22.out).trans' HD23.out).trans' HD24.out).trans' HD25.out)) (both (fits_size HF0.out) (fits_size HF1.out)) (both (listB_abs HB0.out) (listB_abs HB1.out))).mono ?_
          intro e w26 h
          unfold RetAddOf at h
          rw [if_pos ⟨setB_sorted HS0.out, setB_sorted HS1.out⟩] at h
          obtain ⟨v26, r26, rfl, ha, ho, hE⟩ := h
          obtain ⟨B26, d26, hv, hp⟩ := pown_len ho rfl
          subst hv
          have HQ26 := Lib.hid hp; clear hp
          have HD26 := Lib.hid hE
          have HA26 := Lib.hid ha
          have HX26 := Lib.hid (show r26.length ≤ n0 + n1 from by have := isAdd_len ha; rw [List.length_append, HL0.out, HL1.out] at this; exact this)
          clear hE ho ha
          go_wp2_with (fail)
          go_at_call 21
          refine (iAddOf B9 B12 r9.length d9 r12.length d12 r9 r12 _ rfl rfl (by have := HL0.out; have := HL1.out; have := HL2.out; have := H80.out; have := H81.out; have := H82.out; have := HX9.out; have := HX12.out; have := HX26.out; omega) (HQ9.out.ext (((((((((((((((((HD10.out).trans' HD11.out).trans' HD12.out).trans' HD13.out).trans' HD14.out).trans' HD15.out).trans' HD16.out).trans' HD17.out).trans' HD18.out).trans' HD19.out).trans' HD20.out).trans' HD21.out).trans' HD22.out).trans' HD23.out).trans' HD24.out).trans' HD25.out).trans' HD26.out)) (HQ12.out.ext ((((((((((((((HD13.out).trans' HD14.out).trans' HD15.out).trans' HD16.out).trans' HD17.out).trans' HD18.out).trans' HD19.out).trans' HD20.out).trans' HD21.out).trans' HD22.out).trans' HD23.out).trans' HD24.out).trans' HD25.out).trans' HD26.out)) (both (fun x hx => (HZ9.out x hx).2) (fun x hx => (HZ12.out x hx).2)) (both (fun x hx => by have := (HZ9.out x hx).1; omega) (fun x hx => by have := (HZ12.out x hx).1; omega))).mono ?_
          intro e w27 h
          unfold RetAddOf at h
          rw [if_pos ⟨strict_sorted (isB_strict HM9.out.1), strict_sorted (isB_strict HM12.out.1)⟩] at h
          obtain ⟨v27, r27, rfl, ha, ho, hE⟩ := h
          obtain rfl : r26 = r27 := lohi_sum HM9.out HM12.out HA26.out ha
          obtain ⟨B27, d27, hv, hp⟩ := pown_len ho rfl
          subst hv
          have HQ27 := Lib.hid hp; clear hp
          have HD27 := Lib.hid hE
          clear hE ho ha
          go_wp2_with (fail)
          have HBA := Lib.hid (isB_app HA26.out (setB_is HS0.out) (setB_is HS1.out))
          have HBI := Lib.hid (add_big HA26.out (both (fun x hx => by have := listB_mem HB0.out x hx; omega) (fun x hx => by have := listB_mem HB1.out x hx; omega)) (n := 16) (by rw [List.length_append]; have := HL0.out; have := HL1.out; have := HL2.out; have := H80.out; have := H81.out; have := H82.out; have := HX9.out; have := HX12.out; have := HX26.out; omega) (by omega))
          go_at_call 30
          refine (iEqualSet B26 B27 r26.length d26 r26.length d27 r26 r26 _ rfl rfl (by have := HL0.out; have := HL1.out; have := HL2.out; have := H80.out; have := H81.out; have := H82.out; have := HX9.out; have := HX12.out; have := HX26.out; omega) (by have := HL0.out; have := HL1.out; have := HL2.out; have := H80.out; have := H81.out; have := H82.out; have := HX9.out; have := HX12.out; have := HX26.out; omega) (HQ26.out.ext (HD27.out)) HQ27.out HBI.out HBI.out HBA.out HBA.out).mono ?_
          rintro e w28 ⟨rfl, hE⟩
          have HD28 := Lib.hid hE
          clear hE
          rw [decide_eq_true rfl]
          go_wp2_with (fail)
          go_at_call 24
          refine (sumAwake _).mono ?_
          rintro e w29 ⟨rfl, hE⟩
          have HD29 := Lib.hid hE
          clear hE
          go_wp2_with (fail)
          go_ret
          exact ⟨rfl, (((((((((((((((((((((((((((((HD1.out).trans' HD2.out).trans' HD3.out).trans' HD4.out).trans' HD5.out).trans' HD6.out).trans' HD7.out).trans' HD8.out).trans' HD9.out).trans' HD10.out).trans' HD11.out).trans' HD12.out).trans' HD13.out).trans' HD14.out).trans' HD15.out).trans' HD16.out).trans' HD17.out).trans' HD18.out).trans' HD19.out).trans' HD20.out).trans' HD21.out).trans' HD22.out).trans' HD23.out).trans' HD24.out).trans' HD25.out).trans' HD26.out).trans' HD27.out).trans' HD28.out).trans' HD29.out)⟩
    · go_wp2_with (fail)
      go_at_call 69
      refine (cAtMost2 B15 B13 n2 d15 n0 d13 l2 l0 _ HL2.out HL0.out (by have := HL0.out; have := HL1.out; have := HL2.out; have := H80.out; have := H81.out; have := H82.out; have := HX9.out; have := HX12.out; omega) (by have := HL0.out; have := HL1.out; have := HL2.out; have := H80.out; have := H81.out; have := H82.out; have := HX9.out; have := HX12.out; omega) (HQ15.out.ext ((((HD16.out).trans' HD17.out).trans' HD18.out).trans' HD19.out)) (HQ13.out.ext ((((((HD14.out).trans' HD15.out).trans' HD16.out).trans' HD17.out).trans' HD18.out).trans' HD19.out)) (both (listB_abs HB2.out) (listB_abs HB0.out)) (both (fits_size HF2.out) (fits_size HF0.out)) (setB_is HS2.out) (setB_is HS0.out)).mono ?_
      rintro e w20 ⟨rfl, hE⟩
      have HD20 := Lib.hid hE
      clear hE
      rw [← HVu.out]
      go_wp2_with (fail)
      go_at_call 69
      refine (cAtMost2 B15 B14 n2 d15 n1 d14 l2 l1 _ HL2.out HL1.out (by have := HL0.out; have := HL1.out; have := HL2.out; have := H80.out; have := H81.out; have := H82.out; have := HX9.out; have := HX12.out; omega) (by have := HL0.out; have := HL1.out; have := HL2.out; have := H80.out; have := H81.out; have := H82.out; have := HX9.out; have := HX12.out; omega) (HQ15.out.ext (((((HD16.out).trans' HD17.out).trans' HD18.out).trans' HD19.out).trans' HD20.out)) (HQ14.out.ext ((((((HD15.out).trans' HD16.out).trans' HD17.out).trans' HD18.out).trans' HD19.out).trans' HD20.out)) (both (listB_abs HB2.out) (listB_abs HB1.out)) (both (fits_size HF2.out) (fits_size HF1.out)) (setB_is HS2.out) (setB_is HS1.out)).mono ?_
      rintro e w21 ⟨rfl, hE⟩
      have HD21 := Lib.hid hE
      clear hE
      rw [← HVv.out]
      go_wp2_with (fail)
      go_at_call 69
      refine (cAtMost2 B15 B9 n2 d15 r9.length d9 l2 r9 _ HL2.out rfl (by have := HL0.out; have := HL1.out; have := HL2.out; have := H80.out; have := H81.out; have := H82.out; have := HX9.out; have := HX12.out; omega) (by have := HL0.out; have := HL1.out; have := HL2.out; have := H80.out; have := H81.out; have := H82.out; have := HX9.out; have := HX12.out; omega) (HQ15.out.ext ((((((HD16.out).trans' HD17.out).trans' HD18.out).trans' HD19.out).trans' HD20.out).trans' HD21.out)) (HQ9.out.ext ((((((((((((HD10.out).trans' HD11.out).trans' HD12.out).trans' HD13.out).trans' HD14.out).trans' HD15.out).trans' HD16.out).trans' HD17.out).trans' HD18.out).trans' HD19.out).trans' HD20.out).trans' HD21.out)) (both (listB_abs HB2.out) (fun x hx => by have := (HZ9.out x hx).1; omega)) (both (fits_size HF2.out) (fun x hx => (HZ9.out x hx).2)) (setB_is HS2.out) HM9.out.1).mono ?_
      rintro e w22 ⟨rfl, hE⟩
      have HD22 := Lib.hid hE
      clear hE
      rw [HUV.out]
      go_wp2_with (fail)
      cases p
      · go_wp2_with (fail)
        go_at_call 69
        refine (cAtMost2 B13 B15 n0 d13 n2 d15 l0 l2 _ HL0.out HL2.out (by have := HL0.out; have := HL1.out; have := HL2.out; have := H80.out; have := H81.out; have := H82.out; have := HX9.out; have := HX12.out; omega) (by have := HL0.out; have := HL1.out; have := HL2.out; have := H80.out; have := H81.out; have := H82.out; have := HX9.out; have := HX12.out; omega) (HQ13.out.ext (((((((((HD14.out).trans' HD15.out).trans' HD16.out).trans' HD17.out).trans' HD18.out).trans' HD19.out).trans' HD20.out).trans' HD21.out).trans' HD22.out)) (HQ15.out.ext (((((((HD16.out).trans' HD17.out).trans' HD18.out).trans' HD19.out).trans' HD20.out).trans' HD21.out).trans' HD22.out)) (both (listB_abs HB0.out) (listB_abs HB2.out)) (both (fits_size HF0.out) (fits_size HF2.out)) (setB_is HS0.out) (setB_is HS2.out)).mono ?_
        rintro e w23 ⟨rfl, hE⟩
        have HD23 := Lib.hid hE
        clear hE
        rw [← HVp.out]
        go_wp2_with (fail)
        go_at_call 69
        refine (cAtMost2 B12 B15 r12.length d12 n2 d15 r12 l2 _ rfl HL2.out (by have := HL0.out; have := HL1.out; have := HL2.out; have := H80.out; have := H81.out; have := H82.out; have := HX9.out; have := HX12.out; omega) (by have := HL0.out; have := HL1.out; have := HL2.out; have := H80.out; have := H81.out; have := H82.out; have := HX9.out; have := HX12.out; omega) (HQ12.out.ext (((((((((((HD13.out).trans' HD14.out).trans' HD15.out).trans' HD16.out).trans' HD17.out).trans' HD18.out).trans' HD19.out).trans' HD20.out).trans' HD21.out).trans' HD22.out).trans' HD23.out)) (HQ15.out.ext ((((((((HD16.out).trans' HD17.out).trans' HD18.out).trans' HD19.out).trans' HD20.out).trans' HD21.out).trans' HD22.out).trans' HD23.out)) (both (fun x hx => by have := (HZ12.out x hx).1; omega) (listB_abs HB2.out)) (both (fun x hx => (HZ12.out x hx).2) (fits_size HF2.out)) HM12.out.1 (setB_is HS2.out)).mono ?_
        rintro e w24 ⟨rfl, hE⟩
        have HD24 := Lib.hid hE
        clear hE
        rw [HPQ.out]
        go_wp2_with (fail)
        go_at_call 21
        refine (iAddOf B13 B14 n0 d13 n1 d14 l0 l1 _ HL0.out HL1.out (by have := HL0.out; have := HL1.out; have := HL2.out; have := H80.out; have := H81.out; have := H82.out; have := HX9.out; have := HX12.out; omega) (HQ13.out.ext (((((((((((HD14.out).trans' HD15.out).trans' HD16.out).trans' HD17.out).trans' HD18.out).trans' HD19.out).trans' HD20.out).trans' HD21.out).trans' HD22.out).trans' HD23.out).trans' HD24.out)) (HQ14.out.ext ((((((((((HD15.out).trans' HD16.out).trans' HD17.out).trans' HD18.out).trans' HD19.out).trans' HD20.out).trans' HD21.out).trans' HD22.out).trans' HD23.out).trans' HD24.out)) (both (fits_size HF0.out) (fits_size HF1.out)) (both (listB_abs HB0.out) (listB_abs HB1.out))).mono ?_
        intro e w25 h
        unfold RetAddOf at h
        rw [if_pos ⟨setB_sorted HS0.out, setB_sorted HS1.out⟩] at h
        obtain ⟨v25, r25, rfl, ha, ho, hE⟩ := h
        obtain ⟨B25, d25, hv, hp⟩ := pown_len ho rfl
        subst hv
        have HQ25 := Lib.hid hp; clear hp
        have HD25 := Lib.hid hE
        have HA25 := Lib.hid ha
        have HX25 := Lib.hid (show r25.length ≤ n0 + n1 from by have := isAdd_len ha; rw [List.length_append, HL0.out, HL1.out] at this; exact this)
        clear hE ho ha
        go_wp2_with (fail)
        go_at_call 21
        refine (iAddOf B9 B12 r9.length d9 r12.length d12 r9 r12 _ rfl rfl (by have := HL0.out; have := HL1.out; have := HL2.out; have := H80.out; have := H81.out; have := H82.out; have := HX9.out; have := HX12.out; have := HX25.out; omega) (HQ9.out.ext ((((((((((((((((HD10.out).trans' HD11.out).trans' HD12.out).trans' HD13.out).trans' HD14.out).trans' HD15.out).trans' HD16.out).trans' HD17.out).trans' HD18.out).trans' HD19.out).trans' HD20.out).trans' HD21.out).trans' HD22.out).trans' HD23.out).trans' HD24.out).trans' HD25.out)) (HQ12.out.ext (((((((((((((HD13.out).trans' HD14.out).trans' HD15.out).trans' HD16.out).trans' HD17.out).trans' HD18.out).trans' HD19.out).trans' HD20.out).trans' HD21.out).trans' HD22.out).trans' HD23.out).trans' HD24.out).trans' HD25.out)) (both (fun x hx => (HZ9.out x hx).2) (fun x hx => (HZ12.out x hx).2)) (both (fun x hx => by have := (HZ9.out x hx).1; omega) (fun x hx => by have := (HZ12.out x hx).1; omega))).mono ?_
        intro e w26 h
        unfold RetAddOf at h
        rw [if_pos ⟨strict_sorted (isB_strict HM9.out.1), strict_sorted (isB_strict HM12.out.1)⟩] at h
        obtain ⟨v26, r26, rfl, ha, ho, hE⟩ := h
        obtain rfl : r25 = r26 := lohi_sum HM9.out HM12.out HA25.out ha
        obtain ⟨B26, d26, hv, hp⟩ := pown_len ho rfl
        subst hv
        have HQ26 := Lib.hid hp; clear hp
        have HD26 := Lib.hid hE
        clear hE ho ha
        go_wp2_with (fail)
        have HBA := Lib.hid (isB_app HA25.out (setB_is HS0.out) (setB_is HS1.out))
        have HBI := Lib.hid (add_big HA25.out (both (fun x hx => by have := listB_mem HB0.out x hx; omega) (fun x hx => by have := listB_mem HB1.out x hx; omega)) (n := 16) (by rw [List.length_append]; have := HL0.out; have := HL1.out; have := HL2.out; have := H80.out; have := H81.out; have := H82.out; have := HX9.out; have := HX12.out; have := HX25.out; omega) (by omega))
        go_at_call 30
        refine (iEqualSet B25 B26 r25.length d25 r25.length d26 r25 r25 _ rfl rfl (by have := HL0.out; have := HL1.out; have := HL2.out; have := H80.out; have := H81.out; have := H82.out; have := HX9.out; have := HX12.out; have := HX25.out; omega) (by have := HL0.out; have := HL1.out; have := HL2.out; have := H80.out; have := H81.out; have := H82.out; have := HX9.out; have := HX12.out; have := HX25.out; omega) (HQ25.out.ext (HD26.out)) HQ26.out HBI.out HBI.out HBA.out HBA.out).mono ?_
        rintro e w27 ⟨rfl, hE⟩
        have HD27 := Lib.hid hE
        clear hE
        rw [decide_eq_true rfl]
        go_wp2_with (fail)
        go_at_call 24
        refine (sumAwake _).mono ?_
        rintro e w28 ⟨rfl, hE⟩
        have HD28 := Lib.hid hE
        clear hE
        go_wp2_with (fail)
        go_ret
        exact ⟨rfl, ((((((((((((((((((((((((((((HD1.out).trans' HD2.out).trans' HD3.out).trans' HD4.out).trans' HD5.out).trans' HD6.out).trans' HD7.out).trans' HD8.out).trans' HD9.out).trans' HD10.out).trans' HD11.out).trans' HD12.out).trans' HD13.out).trans' HD14.out).trans' HD15.out).trans' HD16.out).trans' HD17.out).trans' HD18.out).trans' HD19.out).trans' HD20.out).trans' HD21.out).trans' HD22.out).trans' HD23.out).trans' HD24.out).trans' HD25.out).trans' HD26.out).trans' HD27.out).trans' HD28.out)⟩
      · go_wp2_with (fail)
        cases q
        · go_wp2_with (fail)
          go_at_call 69
          refine (cAtMost2 B13 B15 n0 d13 n2 d15 l0 l2 _ HL0.out HL2.out (by have := HL0.out; have := HL1.out; have := HL2.out; have := H80.out; have := H81.out; have := H82.out; have := HX9.out; have := HX12.out; omega) (by have := HL0.out; have := HL1.out; have := HL2.out; have := H80.out; have := H81.out; have := H82.out; have := HX9.out; have := HX12.out; omega) (HQ13.out.ext (((((((((HD14.out).trans' HD15.out).trans' HD16.out).trans' HD17.out).trans' HD18.out).trans' HD19.out).trans' HD20.out).trans' HD21.out).trans' HD22.out)) (HQ15.out.ext (((((((HD16.out).trans' HD17.out).trans' HD18.out).trans' HD19.out).trans' HD20.out).trans' HD21.out).trans' HD22.out)) (both (listB_abs HB0.out) (listB_abs HB2.out)) (both (fits_size HF0.out) (fits_size HF2.out)) (setB_is HS0.out) (setB_is HS2.out)).mono ?_
          rintro e w23 ⟨rfl, hE⟩
          have HD23 := Lib.hid hE
          clear hE
          rw [← HVp.out]
          go_wp2_with (fail)
          go_at_call 69
          refine (cAtMost2 B14 B15 n1 d14 n2 d15 l1 l2 _ HL1.out HL2.out (by have := HL0.out; have := HL1.out; have := HL2.out; have := H80.out; have := H81.out; have := H82.out; have := HX9.out; have := HX12.out; omega) (by have := HL0.out; have := HL1.out; have := HL2.out; have := H80.out; have := H81.out; have := H82.out; have := HX9.out; have := HX12.out; omega) (HQ14.out.ext (((((((((HD15.out).trans' HD16.out).trans' HD17.out).trans' HD18.out).trans' HD19.out).trans' HD20.out).trans' HD21.out).trans' HD22.out).trans' HD23.out)) (HQ15.out.ext ((((((((HD16.out).trans' HD17.out).trans' HD18.out).trans' HD19.out).trans' HD20.out).trans' HD21.out).trans' HD22.out).trans' HD23.out)) (both (listB_abs HB1.out) (listB_abs HB2.out)) (both (fits_size HF1.out) (fits_size HF2.out)) (setB_is HS1.out) (setB_is HS2.out)).mono ?_
          rintro e w24 ⟨rfl, hE⟩
          have HD24 := Lib.hid hE
          clear hE
          rw [← HVq.out]
          go_wp2_with (fail)
          go_at_call 69
          refine (cAtMost2 B12 B15 r12.length d12 n2 d15 r12 l2 _ rfl HL2.out (by have := HL0.out; have := HL1.out; have := HL2.out; have := H80.out; have := H81.out; have := H82.out; have := HX9.out; have := HX12.out; omega) (by have := HL0.out; have := HL1.out; have := HL2.out; have := H80.out; have := H81.out; have := H82.out; have := HX9.out; have := HX12.out; omega) (HQ12.out.ext ((((((((((((HD13.out).trans' HD14.out).trans' HD15.out).trans' HD16.out).trans' HD17.out).trans' HD18.out).trans' HD19.out).trans' HD20.out).trans' HD21.out).trans' HD22.out).trans' HD23.out).trans' HD24.out)) (HQ15.out.ext (((((((((HD16.out).trans' HD17.out).trans' HD18.out).trans' HD19.out).trans' HD20.out).trans' HD21.out).trans' HD22.out).trans' HD23.out).trans' HD24.out)) (both (fun x hx => by have := (HZ12.out x hx).1; omega) (listB_abs HB2.out)) (both (fun x hx => (HZ12.out x hx).2) (fits_size HF2.out)) HM12.out.1 (setB_is HS2.out)).mono ?_
          rintro e w25 ⟨rfl, hE⟩
          have HD25 := Lib.hid hE
          clear hE
          rw [HPQ.out]
          go_wp2_with (fail)
          go_at_call 21
          refine (iAddOf B13 B14 n0 d13 n1 d14 l0 l1 _ HL0.out HL1.out (by have := HL0.out; have := HL1.out; have := HL2.out; have := H80.out; have := H81.out; have := H82.out; have := HX9.out; have := HX12.out; omega) (HQ13.out.ext ((((((((((((HD14.out).trans' HD15.out).trans' HD16.out).trans' HD17.out).trans' HD18.out).trans' HD19.out).trans' HD20.out).trans' HD21.out).trans' HD22.out).trans' HD23.out).trans' HD24.out).trans' HD25.out)) (HQ14.out.ext (((((((((((HD15.out).trans' HD16.out).trans' HD17.out).trans' HD18.out).trans' HD19.out).trans' HD20.out).trans' HD21.out).trans' HD22.out).trans' HD23.out).trans' HD24.out).trans' HD25.out)) (both (fits_size HF0.out) (fits_size HF1.out)) (both (listB_abs HB0.out) (listB_abs HB1.out))).mono ?_
          intro e w26 h
          unfold RetAddOf at h
          rw [if_pos ⟨setB_sorted HS0.out, setB_sorted HS1.out⟩] at h
          obtain ⟨v26, r26, rfl, ha, ho, hE⟩ := h
          obtain ⟨B26, d26, hv, hp⟩ := pown_len ho rfl
          subst hv
          have HQ26 := Lib.hid hp; clear hp
          have HD26 := Lib.hid hE
          have HA26 := Lib.hid ha
          have HX26 := Lib.hid (show r26.length ≤ n0 + n1 from by have := isAdd_len ha; rw [List.length_append, HL0.out, HL1.out] at this; exact this)
          clear hE ho ha
          go_wp2_with (fail)
          go_at_call 21
          refine (iAddOf B9 B12 r9.length d9 r12.length d12 r9 r12 _ rfl rfl (by have := HL0.out; have := HL1.out; have := HL2.out; have := H80.out; have := H81.out; have := H82.out; have := HX9.out; have := HX12.out; have := HX26.out; omega) (HQ9.out.ext (((((((((((((((((HD10.out).trans' HD11.out).trans' HD12.out).trans' HD13.out).trans' HD14.out).trans' HD15.out).trans' HD16.out).trans' HD17.out).trans' HD18.out).trans' HD19.out).trans' HD20.out).trans' HD21.out).trans' HD22.out).trans' HD23.out).trans' HD24.out).trans' HD25.out).trans' HD26.out)) (HQ12.out.ext ((((((((((((((HD13.out).trans' HD14.out).trans' HD15.out).trans' HD16.out).trans' HD17.out).trans' HD18.out).trans' HD19.out).trans' HD20.out).trans' HD21.out).trans' HD22.out).trans' HD23.out).trans' HD24.out).trans' HD25.out).trans' HD26.out)) (both (fun x hx => (HZ9.out x hx).2) (fun x hx => (HZ12.out x hx).2)) (both (fun x hx => by have := (HZ9.out x hx).1; omega) (fun x hx => by have := (HZ12.out x hx).1; omega))).mono ?_
          intro e w27 h
          unfold RetAddOf at h
          rw [if_pos ⟨strict_sorted (isB_strict HM9.out.1), strict_sorted (isB_strict HM12.out.1)⟩] at h
          obtain ⟨v27, r27, rfl, ha, ho, hE⟩ := h
          obtain rfl : r26 = r27 := lohi_sum HM9.out HM12.out HA26.out ha
          obtain ⟨B27, d27, hv, hp⟩ := pown_len ho rfl
          subst hv
          have HQ27 := Lib.hid hp; clear hp
          have HD27 := Lib.hid hE
          clear hE ho ha
          go_wp2_with (fail)
          have HBA := Lib.hid (isB_app HA26.out (setB_is HS0.out) (setB_is HS1.out))
          have HBI := Lib.hid (add_big HA26.out (both (fun x hx => by have := listB_mem HB0.out x hx; omega) (fun x hx => by have := listB_mem HB1.out x hx; omega)) (n := 16) (by rw [List.length_append]; have := HL0.out; have := HL1.out; have := HL2.out; have := H80.out; have := H81.out; have := H82.out; have := HX9.out; have := HX12.out; have := HX26.out; omega) (by omega))
          go_at_call 30
          refine (iEqualSet B26 B27 r26.length d26 r26.length d27 r26 r26 _ rfl rfl (by have := HL0.out; have := HL1.out; have := HL2.out; have := H80.out; have := H81.out; have := H82.out; have := HX9.out; have := HX12.out; have := HX26.out; omega) (by have := HL0.out; have := HL1.out; have := HL2.out; have := H80.out; have := H81.out; have := H82.out; have := HX9.out; have := HX12.out; have := HX26.out; omega) (HQ26.out.ext (HD27.out)) HQ27.out HBI.out HBI.out HBA.out HBA.out).mono ?_
          rintro e w28 ⟨rfl, hE⟩
          have HD28 := Lib.hid hE
          clear hE
          rw [decide_eq_true rfl]
          go_wp2_with (fail)
          go_at_call 24
          refine (sumAwake _).mono ?_
          rintro e w29 ⟨rfl, hE⟩
          have HD29 := Lib.hid hE
          clear hE
          go_wp2_with (fail)
          go_ret
          exact ⟨rfl, (((((((((((((((((((((((((((((HD1.out).trans' HD2.out).trans' HD3.out).trans' HD4.out).trans' HD5.out).trans' HD6.out).trans' HD7.out).trans' HD8.out).trans' HD9.out).trans' HD10.out).trans' HD11.out).trans' HD12.out).trans' HD13.out).trans' HD14.out).trans' HD15.out).trans' HD16.out).trans' HD17.out).trans' HD18.out).trans' HD19.out).trans' HD20.out).trans' HD21.out).trans' HD22.out).trans' HD23.out).trans' HD24.out).trans' HD25.out).trans' HD26.out).trans' HD27.out).trans' HD28.out).trans' HD29.out)⟩
        · go_wp2_with (fail)
          go_at_call 69
          refine (cAtMost2 B13 B15 n0 d13 n2 d15 l0 l2 _ HL0.out HL2.out (by have := HL0.out; have := HL1.out; have := HL2.out; have := H80.out; have := H81.out; have := H82.out; have := HX9.out; have := HX12.out; omega) (by have := HL0.out; have := HL1.out; have := HL2.out; have := H80.out; have := H81.out; have := H82.out; have := HX9.out; have := HX12.out; omega) (HQ13.out.ext (((((((((HD14.out).trans' HD15.out).trans' HD16.out).trans' HD17.out).trans' HD18.out).trans' HD19.out).trans' HD20.out).trans' HD21.out).trans' HD22.out)) (HQ15.out.ext (((((((HD16.out).trans' HD17.out).trans' HD18.out).trans' HD19.out).trans' HD20.out).trans' HD21.out).trans' HD22.out)) (both (listB_abs HB0.out) (listB_abs HB2.out)) (both (fits_size HF0.out) (fits_size HF2.out)) (setB_is HS0.out) (setB_is HS2.out)).mono ?_
          rintro e w23 ⟨rfl, hE⟩
          have HD23 := Lib.hid hE
          clear hE
          rw [← HVp.out]
          go_wp2_with (fail)
          go_at_call 69
          refine (cAtMost2 B14 B15 n1 d14 n2 d15 l1 l2 _ HL1.out HL2.out (by have := HL0.out; have := HL1.out; have := HL2.out; have := H80.out; have := H81.out; have := H82.out; have := HX9.out; have := HX12.out; omega) (by have := HL0.out; have := HL1.out; have := HL2.out; have := H80.out; have := H81.out; have := H82.out; have := HX9.out; have := HX12.out; omega) (HQ14.out.ext (((((((((HD15.out).trans' HD16.out).trans' HD17.out).trans' HD18.out).trans' HD19.out).trans' HD20.out).trans' HD21.out).trans' HD22.out).trans' HD23.out)) (HQ15.out.ext ((((((((HD16.out).trans' HD17.out).trans' HD18.out).trans' HD19.out).trans' HD20.out).trans' HD21.out).trans' HD22.out).trans' HD23.out)) (both (listB_abs HB1.out) (listB_abs HB2.out)) (both (fits_size HF1.out) (fits_size HF2.out)) (setB_is HS1.out) (setB_is HS2.out)).mono ?_
          rintro e w24 ⟨rfl, hE⟩
          have HD24 := Lib.hid hE
          clear hE
          rw [← HVq.out]
          go_wp2_with (fail)
          go_at_call 69
          refine (cAtMost2 B12 B15 r12.length d12 n2 d15 r12 l2 _ rfl HL2.out (by have := HL0.out; have := HL1.out; have := HL2.out; have := H80.out; have := H81.out; have := H82.out; have := HX9.out; have := HX12.out; omega) (by have := HL0.out; have := HL1.out; have := HL2.out; have := H80.out; have := H81.out; have := H82.out; have := HX9.out; have := HX12.out; omega) (HQ12.out.ext ((((((((((((HD13.out).trans' HD14.out).trans' HD15.out).trans' HD16.out).trans' HD17.out).trans' HD18.out).trans' HD19.out).trans' HD20.out).trans' HD21.out).trans' HD22.out).trans' HD23.out).trans' HD24.out)) (HQ15.out.ext (((((((((HD16.out).trans' HD17.out).trans' HD18.out).trans' HD19.out).trans' HD20.out).trans' HD21.out).trans' HD22.out).trans' HD23.out).trans' HD24.out)) (both (fun x hx => by have := (HZ12.out x hx).1; omega) (listB_abs HB2.out)) (both (fun x hx => (HZ12.out x hx).2) (fits_size HF2.out)) HM12.out.1 (setB_is HS2.out)).mono ?_
          rintro e w25 ⟨rfl, hE⟩
          have HD25 := Lib.hid hE
          clear hE
          rw [HPQ.out]
          go_wp2_with (fail)
          go_at_call 21
          refine (iAddOf B13 B14 n0 d13 n1 d14 l0 l1 _ HL0.out HL1.out (by have := HL0.out; have := HL1.out; have := HL2.out; have := H80.out; have := H81.out; have := H82.out; have := HX9.out; have := HX12.out; omega) (HQ13.out.ext ((((((((((((HD14.out).trans' HD15.out).trans' HD16.out).trans' HD17.out).trans' HD18.out).trans' HD19.out).trans' HD20.out).trans' HD21.out).trans' HD22.out).trans' HD23.out).trans' HD24.out).trans' HD25.out)) (HQ14.out.ext (((((((((((HD15.out).trans' HD16.out).trans' HD17.out).trans' HD18.out).trans' HD19.out).trans' HD20.out).trans' HD21.out).trans' HD22.out).trans' HD23.out).trans' HD24.out).trans' HD25.out)) (both (fits_size HF0.out) (fits_size HF1.out)) (both (listB_abs HB0.out) (listB_abs HB1.out))).mono ?_
          intro e w26 h
          unfold RetAddOf at h
          rw [if_pos ⟨setB_sorted HS0.out, setB_sorted HS1.out⟩] at h
          obtain ⟨v26, r26, rfl, ha, ho, hE⟩ := h
          obtain ⟨B26, d26, hv, hp⟩ := pown_len ho rfl
          subst hv
          have HQ26 := Lib.hid hp; clear hp
          have HD26 := Lib.hid hE
          have HA26 := Lib.hid ha
          have HX26 := Lib.hid (show r26.length ≤ n0 + n1 from by have := isAdd_len ha; rw [List.length_append, HL0.out, HL1.out] at this; exact this)
          clear hE ho ha
          go_wp2_with (fail)
          go_at_call 21
          refine (iAddOf B9 B12 r9.length d9 r12.length d12 r9 r12 _ rfl rfl (by have := HL0.out; have := HL1.out; have := HL2.out; have := H80.out; have := H81.out; have := H82.out; have := HX9.out; have := HX12.out; have := HX26.out; omega) (HQ9.out.ext (((((((((((((((((HD10.out).trans' HD11.out).trans' HD12.out).trans' HD13.out).trans' HD14.out).trans' HD15.out).trans' HD16.out).trans' HD17.out).trans' HD18.out).trans' HD19.out).trans' HD20.out).trans' HD21.out).trans' HD22.out).trans' HD23.out).trans' HD24.out).trans' HD25.out).trans' HD26.out)) (HQ12.out.ext ((((((((((((((HD13.out).trans' HD14.out).trans' HD15.out).trans' HD16.out).trans' HD17.out).trans' HD18.out).trans' HD19.out).trans' HD20.out).trans' HD21.out).trans' HD22.out).trans' HD23.out).trans' HD24.out).trans' HD25.out).trans' HD26.out)) (both (fun x hx => (HZ9.out x hx).2) (fun x hx => (HZ12.out x hx).2)) (both (fun x hx => by have := (HZ9.out x hx).1; omega) (fun x hx => by have := (HZ12.out x hx).1; omega))).mono ?_
          intro e w27 h
          unfold RetAddOf at h
          rw [if_pos ⟨strict_sorted (isB_strict HM9.out.1), strict_sorted (isB_strict HM12.out.1)⟩] at h
          obtain ⟨v27, r27, rfl, ha, ho, hE⟩ := h
          obtain rfl : r26 = r27 := lohi_sum HM9.out HM12.out HA26.out ha
          obtain ⟨B27, d27, hv, hp⟩ := pown_len ho rfl
          subst hv
          have HQ27 := Lib.hid hp; clear hp
          have HD27 := Lib.hid hE
          clear hE ho ha
          go_wp2_with (fail)
          have HBA := Lib.hid (isB_app HA26.out (setB_is HS0.out) (setB_is HS1.out))
          have HBI := Lib.hid (add_big HA26.out (both (fun x hx => by have := listB_mem HB0.out x hx; omega) (fun x hx => by have := listB_mem HB1.out x hx; omega)) (n := 16) (by rw [List.length_append]; have := HL0.out; have := HL1.out; have := HL2.out; have := H80.out; have := H81.out; have := H82.out; have := HX9.out; have := HX12.out; have := HX26.out; omega) (by omega))
          go_at_call 30
          refine (iEqualSet B26 B27 r26.length d26 r26.length d27 r26 r26 _ rfl rfl (by have := HL0.out; have := HL1.out; have := HL2.out; have := H80.out; have := H81.out; have := H82.out; have := HX9.out; have := HX12.out; have := HX26.out; omega) (by have := HL0.out; have := HL1.out; have := HL2.out; have := H80.out; have := H81.out; have := H82.out; have := HX9.out; have := HX12.out; have := HX26.out; omega) (HQ26.out.ext (HD27.out)) HQ27.out HBI.out HBI.out HBA.out HBA.out).mono ?_
          rintro e w28 ⟨rfl, hE⟩
          have HD28 := Lib.hid hE
          clear hE
          rw [decide_eq_true rfl]
          go_wp2_with (fail)
          go_at_call 24
          refine (sumAwake _).mono ?_
          rintro e w29 ⟨rfl, hE⟩
          have HD29 := Lib.hid hE
          clear hE
          go_wp2_with (fail)
          go_ret
          exact ⟨rfl, (((((((((((((((((((((((((((((HD1.out).trans' HD2.out).trans' HD3.out).trans' HD4.out).trans' HD5.out).trans' HD6.out).trans' HD7.out).trans' HD8.out).trans' HD9.out).trans' HD10.out).trans' HD11.out).trans' HD12.out).trans' HD13.out).trans' HD14.out).trans' HD15.out).trans' HD16.out).trans' HD17.out).trans' HD18.out).trans' HD19.out).trans' HD20.out).trans' HD21.out).trans' HD22.out).trans' HD23.out).trans' HD24.out).trans' HD25.out).trans' HD26.out).trans' HD27.out).trans' HD28.out).trans' HD29.out)⟩
end Go.Proofs.YtagfbefgcijegaaGreatDoor
