/-
  The law FnDeciThereBack, for all inputs.
-/
import Derived.Test.YtfocejhcdcnnhaaGreatDoorHF
import Derived.Test.YtfocejhcdcnnhaaGreatDoorLDNew
namespace Go.Proofs.YtfocejhcdcnnhaaGreatDoor
open Go Go.RowKit

theorem retSub_ok {L : List (ByteArray × Int)} {w : World} {e : Ending} {w' : World} (hn : dAnyNeg L = false) (h : RetSubD L w e w') : RetDBack (L.map dback) w e w' := by
  obtain ⟨v, he, ho, hE⟩ := h
  rw [hn] at he
  exact ⟨v, he, ho hn, hE⟩
theorem capP_len (U V : List (ByteArray × Int)) : (capP U V).length ≤ U.length := by
  unfold capP; refine Nat.le_trans (List.length_filter_le _ _) ?_; simp [dboth]
theorem sortDP_back {L : List (ByteArray × Int)} (h : L.length < 50) (ha : AscP L) : SortDP (L.map dback) := Or.inr ⟨by rw [List.length_map]; exact h, by rw [dbacks_dval]; exact ha⟩

set_option maxRecDepth 100000 in
set_option maxHeartbeats 8000000 in
theorem lawDTB (A : Option Addr) (n c : Nat) (l : List DP) (B : Option Addr) (m d : Nat) (k : List DP) (w : World) (hl : l.length = n) (hn : n ≤ 9223372036854775807) (hA : DPlainAt w A l) (hk : k.length = m) (hm : m ≤ 9223372036854775807) (hB : DPlainAt w B k) (hT : Thr w) :
    Calls Tryz.prog 7 #[.slice A n c, .slice B m d] w (RetE (.bool true) w) := by
  have HL := Lib.hid hl; have HK := Lib.hid hk; have HA := Lib.hid hA; have HB := Lib.hid hB; have TW := Lib.hid hT
  clear hl hk hA hB hT
  go_enter Tryz.func7, Tryz.ntmps7
  go_wp2_with (fail)
  go_at_call 10
  refine (zFits3 A n c l _ HL.out hn (HA.out)).mono ?_
  rintro e w1 ⟨r, rfl, hf, hE⟩
  have HE1 := Lib.hid hE; clear hE
  clear hf
  cases r
  · go_wp2
    go_ret
    exact ⟨rfl, HE1.out⟩
  go_wp2_with (fail)
  go_at_call 10
  refine (zFits3 B m d k _ HK.out hm (HB.out.ext HE1.out)).mono ?_
  rintro e w2 ⟨r, rfl, hf, hE⟩
  have HE2 := Lib.hid (HE1.out.trans' hE); clear hE HE1
  clear hf
  cases r
  · go_wp2
    go_ret
    exact ⟨rfl, HE2.out⟩
  go_wp2_with (fail)
  go_at_call 11
  refine (lDeciApartN A n c l _ HL.out hn (HA.out.ext HE2.out)).mono ?_
  rintro e w3 ⟨r, rfl, hf, hE⟩
  have HE3 := Lib.hid (HE2.out.trans' hE); clear hE HE2
  have HF3 := Lib.hid hf; clear hf
  cases r
  · go_wp2_with (go_at_call 13; refine (deciAwake _ (TW.out.ext HE3.out)).mono ?_; rintro e w99 ⟨rfl, hE⟩; have HE99 := Lib.hid (HE3.out.trans' hE); clear hE)
    go_ret
    exact ⟨rfl, HE99.out⟩
  go_wp2_with (fail)
  go_at_call 11
  refine (lDeciApartN B m d k _ HK.out hm (HB.out.ext HE3.out)).mono ?_
  rintro e w4 ⟨r, rfl, hf, hE⟩
  have HE4 := Lib.hid (HE3.out.trans' hE); clear hE HE3
  have HF4 := Lib.hid hf; clear hf
  cases r
  · go_wp2_with (go_at_call 13; refine (deciAwake _ (TW.out.ext HE4.out)).mono ?_; rintro e w99 ⟨rfl, hE⟩; have HE99 := Lib.hid (HE4.out.trans' hE); clear hE)
    go_ret
    exact ⟨rfl, HE99.out⟩
  have F3 := Lib.hid (show l.length ≤ 12 ∧ (∀ x ∈ l, x.1.size ≤ 130 ∧ DecN x.2.1 x.2.2) ∧ AscP (l.map dval) by first | exact HF3.out trivial | exact HF3.out rfl)
  have F4 := Lib.hid (show k.length ≤ 12 ∧ (∀ x ∈ k, x.1.size ≤ 130 ∧ DecN x.2.1 x.2.2) ∧ AscP (k.map dval) by first | exact HF4.out trivial | exact HF4.out rfl)
  clear HF3 HF4
  have hn12 : n ≤ 12 := by have := F3.out.1; rw [HL.out] at this; exact this
  have hm12 : m ≤ 12 := by have := F4.out.1; rw [HK.out] at this; exact this
  have D3 := Lib.hid (show ∀ x ∈ l, DecB x.2.1 x.2.2 from fun x hx => (F3.out.2.1 x hx).2.decB)
  have D4 := Lib.hid (show ∀ x ∈ k, DecB x.2.1 x.2.2 from fun x hx => (F4.out.2.1 x hx).2.decB)
  obtain ⟨U, hU⟩ : ∃ U, U = l.map dval := ⟨_, rfl⟩
  obtain ⟨V, hV⟩ : ∃ V, V = k.map dval := ⟨_, rfl⟩
  have HU := Lib.hid hU; have HV := Lib.hid hV; clear hU hV
  have HUL := Lib.hid (show U.length = n by rw [HU.out, List.length_map]; exact HL.out)
  have HVL := Lib.hid (show V.length = m by rw [HV.out, List.length_map]; exact HK.out)
  have BU := Lib.hid (show ∀ x ∈ U, x.2.natAbs ≤ MN by rw [HU.out]; exact dvalN_bound fun x hx => (F3.out.2.1 x hx).2)
  have BV := Lib.hid (show ∀ x ∈ V, x.2.natAbs ≤ MN by rw [HV.out]; exact dvalN_bound fun x hx => (F4.out.2.1 x hx).2)
  go_wp2_with (fail)
  go_at_call 18
  refine (lDeciOf A n c l _ HL.out (by omega) (HA.out.ext HE4.out) D3.out).mono ?_
  rintro e w5 ⟨v, rfl, hown, hE⟩
  have HE5 := Lib.hid (HE4.out.trans' hE); clear hE HE4
  obtain ⟨A5, c5, rfl, hc, hat⟩ := de_slice (n := n) hown (by rw [List.length_map]; exact HL.out)
  have HERR := Lib.hid (sErr A5 n c5 (l.map dval) w5 (by rw [List.length_map]; exact HL.out) (by omega) hc hat (fun x hx => by obtain ⟨y, hy, rfl⟩ := List.mem_map.1 hx; have h1 := (F3.out.2.1 y hy).1; have e1 : (dval y).1 = y.1 := rfl; rw [e1]; omega) (fun x hx => Nat.lt_of_lt_of_le (bound_b64 (dval_bound D3.out x hx)) b64_24))
  rw [← HU.out] at HERR
  clear hown hat hc
  obtain ⟨o, ho⟩ : ∃ o, o = dErr [] U := ⟨_, rfl⟩
  rw [← ho] at HERR
  have HO := Lib.hid ho; clear ho
  go_wp2_with (fail)
  go_at_call 26
  refine (HERR.out).mono ?_
  rintro e w6 ⟨rfl, hE⟩
  have HE6 := Lib.hid (HE5.out.trans' hE); clear hE HE5
  clear HERR
  cases o with
  | some t =>
    have HT0 := Lib.hid (dErr_text U [] t HO.out.symm)
    have hne : (t.toList == (⟨#[]⟩ : ByteArray).toList) = false := by rw [key_beq]; simpa using HT0.out
    have hnil : (⟨#[]⟩ : ByteArray).toList = [] := by first | rfl | decide +kernel | simp [ByteArray.toList, ByteArray.toList.loop]
    have hne3 : (t.toList == []) = false := by rw [← hnil]; exact hne
    have hne2 : ¬ t.toList = [] := by simpa using hne3
    rw [show errText (some t) = t from rfl]
    go_wp2_with (go_at_call 13; refine (deciAwake _ (TW.out.ext HE6.out)).mono ?_; rintro e w99 ⟨rfl, hE⟩; have HE99 := Lib.hid (HE6.out.trans' hE); clear hE)
    go_ret
    exact ⟨rfl, HE99.out⟩
  | none =>
  have RU := Lib.hid (show RightP U from right_of (by rw [HU.out]; exact F3.out.2.2) HO.out.symm)
  clear HO
  have et : errText none = ⟨#[]⟩ := rfl
  rw [et]
  clear et
  go_wp2_with (fail)
  go_at_call 18
  refine (lDeciOf B m d k _ HK.out (by omega) (HB.out.ext HE6.out) D4.out).mono ?_
  rintro e w7 ⟨v, rfl, hown, hE⟩
  have HE7 := Lib.hid (HE6.out.trans' hE); clear hE HE6
  obtain ⟨A7, c7, rfl, hc, hat⟩ := de_slice (n := m) hown (by rw [List.length_map]; exact HK.out)
  have HERR := Lib.hid (sErr A7 m c7 (k.map dval) w7 (by rw [List.length_map]; exact HK.out) (by omega) hc hat (fun x hx => by obtain ⟨y, hy, rfl⟩ := List.mem_map.1 hx; have h1 := (F4.out.2.1 y hy).1; have e1 : (dval y).1 = y.1 := rfl; rw [e1]; omega) (fun x hx => Nat.lt_of_lt_of_le (bound_b64 (dval_bound D4.out x hx)) b64_24))
  rw [← HV.out] at HERR
  clear hown hat hc
  obtain ⟨o, ho⟩ : ∃ o, o = dErr [] V := ⟨_, rfl⟩
  rw [← ho] at HERR
  have HO := Lib.hid ho; clear ho
  go_wp2_with (fail)
  go_at_call 26
  refine (HERR.out).mono ?_
  rintro e w8 ⟨rfl, hE⟩
  have HE8 := Lib.hid (HE7.out.trans' hE); clear hE HE7
  clear HERR
  cases o with
  | some t =>
    have HT0 := Lib.hid (dErr_text V [] t HO.out.symm)
    have hne : (t.toList == (⟨#[]⟩ : ByteArray).toList) = false := by rw [key_beq]; simpa using HT0.out
    have hnil : (⟨#[]⟩ : ByteArray).toList = [] := by first | rfl | decide +kernel | simp [ByteArray.toList, ByteArray.toList.loop]
    have hne3 : (t.toList == []) = false := by rw [← hnil]; exact hne
    have hne2 : ¬ t.toList = [] := by simpa using hne3
    rw [show errText (some t) = t from rfl]
    go_wp2_with (go_at_call 13; refine (deciAwake _ (TW.out.ext HE8.out)).mono ?_; rintro e w99 ⟨rfl, hE⟩; have HE99 := Lib.hid (HE8.out.trans' hE); clear hE)
    go_ret
    exact ⟨rfl, HE99.out⟩
  | none =>
  have RV := Lib.hid (show RightP V from right_of (by rw [HV.out]; exact F4.out.2.2) HO.out.symm)
  clear HO
  have et : errText none = ⟨#[]⟩ := rfl
  rw [et]
  clear et
  obtain ⟨S, hS⟩ : ∃ S, S = dmrg U V := ⟨_, rfl⟩
  obtain ⟨C, hC⟩ : ∃ C, C = capP U V := ⟨_, rfl⟩
  have HS := Lib.hid hS; have HC := Lib.hid hC; clear hS hC
  have RS := Lib.hid (show RightP S by rw [HS.out]; exact sum_right RU.out RV.out)
  have RC := Lib.hid (show RightP C by rw [HC.out]; exact capP_right RU.out RV.out)
  have HSL := Lib.hid (show S.length ≤ 24 by have h1 := dmrg_len U V; rw [← HS.out, HUL.out, HVL.out] at h1; omega)
  have HCL := Lib.hid (show C.length ≤ 12 by have h1 := capP_len U V; rw [← HC.out, HUL.out] at h1; omega)
  have BS := Lib.hid (show ∀ x ∈ S, x.2.natAbs ≤ 2 * MN by rw [HS.out]; exact sum_boundN RU.out.1 RV.out.1 BU.out BV.out)
  have BC := Lib.hid (show ∀ x ∈ C, x.2.natAbs ≤ MN by rw [HC.out]; exact cap_boundN RV.out.1 BU.out BV.out)
  have DS := Lib.hid (dbacks_decB BS.out)
  have DC := Lib.hid (dbacks_decB (L := C) fun x hx => by have := BC.out x hx; omega)
  have DU := Lib.hid (dbacks_decB (L := U) fun x hx => by have := BU.out x hx; omega)
  have FS := Lib.hid (show ∀ x ∈ S, FitT x.2 from fun x hx => fit_4MN (by have := BS.out x hx; omega))
  have FC := Lib.hid (show ∀ x ∈ C, FitT x.2 from fun x hx => fit_4MN (by have := BC.out x hx; omega))
  have FU := Lib.hid (show ∀ x ∈ U, FitT x.2 from fun x hx => fit_4MN (by have := BU.out x hx; omega))
  have E1 := Lib.hid (show dmrg (l.map dval) (k.map dval) = S by rw [← HU.out, ← HV.out]; exact HS.out.symm)
  have E2 := Lib.hid (show dmrg (k.map dval) (l.map dval) = S by rw [← HU.out, ← HV.out, HS.out]; exact sum_comm RU.out.1 RV.out.1)
  have E3 := Lib.hid (show dsub (S.map dback) k = U by unfold dsub; rw [dbacks_dval, ← HV.out, HS.out]; exact sum_back RU.out RV.out)
  have E4 := Lib.hid (show dcap l k = C by rw [HC.out]; unfold dcap capP; rw [← HU.out, ← HV.out])
  have E5 := Lib.hid (show dcap k l = C by rw [HC.out, capP_comm RU.out RV.out]; unfold dcap capP; rw [← HU.out, ← HV.out])
  have E6 := Lib.hid (show dAnyNeg (dsub l (C.map dback)) = false by unfold dsub; rw [dbacks_dval, ← HU.out, HC.out]; exact (sub_cap RU.out RV.out).1)
  have E7 := Lib.hid (show dAnyNeg (dsub k (C.map dback)) = false by unfold dsub; rw [dbacks_dval, ← HV.out, HC.out]; exact (sub_cap RU.out RV.out).2)
  have F6 := Lib.hid (show ∀ x ∈ dsub l (C.map dback), FitT x.2 by unfold dsub; rw [dbacks_dval, ← HU.out]; exact fun x hx => fit_4MN (by have := subs_boundN RU.out.1 RC.out.1 BU.out BC.out x hx; omega))
  have F7 := Lib.hid (show ∀ x ∈ dsub k (C.map dback), FitT x.2 by unfold dsub; rw [dbacks_dval, ← HV.out]; exact fun x hx => fit_4MN (by have := subs_boundN RV.out.1 RC.out.1 BV.out BC.out x hx; omega))
  go_wp2_with (fail)
  go_at_call 15
  refine (lDeciOwn A n c l _ HL.out (by first | omega | (have := HSL.out; omega) | (have := HCL.out; omega)) (HA.out.ext HE8.out)).mono ?_
  rintro e w9 ⟨v, rfl, hown, hE⟩
  have HE9 := Lib.hid (HE8.out.trans' hE); clear hE HE8
  obtain ⟨A9, c9, rfl, -, hat⟩ := dplain_slice (n := n) hown HL.out
  have P9 := Lib.hid (hat)
  clear hown hat
  go_wp2_with (fail)
  go_at_call 15
  refine (lDeciOwn B m d k _ HK.out (by first | omega | (have := HSL.out; omega) | (have := HCL.out; omega)) (HB.out.ext HE9.out)).mono ?_
  rintro e w10 ⟨v, rfl, hown, hE⟩
  have HE10 := Lib.hid (HE9.out.trans' hE); have P10 := Lib.hid (P9.out.ext hE); clear hE P9 HE9
  obtain ⟨A10, c10, rfl, -, hat⟩ := dplain_slice (n := m) hown HK.out
  have Q10 := Lib.hid (hat)
  clear hown hat
  have HX := Lib.hid (by have h := iDecAdd A9 A10 n c9 m c10 l k w10 HL.out HK.out (by omega) (by omega) P10.out Q10.out D3.out D4.out (TW.out.ext HE10.out) (by rw [E1.out]; exact FS.out); rw [E1.out] at h; exact h)
  go_wp2_with (fail)
  go_at_call 29
  refine (HX.out).mono ?_
  rintro e w11 ⟨v, rfl, hown, hE⟩
  have HE11 := Lib.hid (HE10.out.trans' hE); have P11 := Lib.hid (P10.out.ext hE); have Q11 := Lib.hid (Q10.out.ext hE); clear hE P10 Q10 HE10
  clear HX
  obtain ⟨A11, c11, rfl, -, hat⟩ := dplain_slice (n := S.length) hown (by rw [List.length_map])
  have SUM11 := Lib.hid (hat)
  clear hown hat
  go_wp2_with (fail)
  go_at_call 15
  refine (lDeciOwn B m d k _ HK.out (by first | omega | (have := HSL.out; omega) | (have := HCL.out; omega)) (HB.out.ext HE11.out)).mono ?_
  rintro e w12 ⟨v, rfl, hown, hE⟩
  have HE12 := Lib.hid (HE11.out.trans' hE); have SUM12 := Lib.hid (SUM11.out.ext hE); clear hE SUM11 HE11
  obtain ⟨A12, c12, rfl, -, hat⟩ := dplain_slice (n := m) hown HK.out
  have Q12 := Lib.hid (hat)
  clear hown hat
  go_wp2_with (fail)
  go_at_call 15
  refine (lDeciOwn A n c l _ HL.out (by first | omega | (have := HSL.out; omega) | (have := HCL.out; omega)) (HA.out.ext HE12.out)).mono ?_
  rintro e w13 ⟨v, rfl, hown, hE⟩
  have HE13 := Lib.hid (HE12.out.trans' hE); have SUM13 := Lib.hid (SUM12.out.ext hE); have Q13 := Lib.hid (Q12.out.ext hE); clear hE SUM12 Q12 HE12
  obtain ⟨A13, c13, rfl, -, hat⟩ := dplain_slice (n := n) hown HL.out
  have P13 := Lib.hid (hat)
  clear hown hat
  have HX := Lib.hid (by have h := iDecAdd A12 A13 m c12 n c13 k l w13 HK.out HL.out (by omega) (by omega) Q13.out P13.out D4.out D3.out (TW.out.ext HE13.out) (by rw [E2.out]; exact FS.out); rw [E2.out] at h; exact h)
  go_wp2_with (fail)
  go_at_call 29
  refine (HX.out).mono ?_
  rintro e w14 ⟨v, rfl, hown, hE⟩
  have HE14 := Lib.hid (HE13.out.trans' hE); have SUM14 := Lib.hid (SUM13.out.ext hE); have Q14 := Lib.hid (Q13.out.ext hE); have P14 := Lib.hid (P13.out.ext hE); clear hE SUM13 Q13 P13 HE13
  clear HX
  obtain ⟨A14, c14, rfl, -, hat⟩ := dplain_slice (n := S.length) hown (by rw [List.length_map])
  have OTH14 := Lib.hid (hat)
  clear hown hat
  go_wp2_with (fail)
  go_at_call 15
  refine (lDeciOwn A11 S.length c11 (S.map dback) _ (by rw [List.length_map]) (by first | omega | (have := HSL.out; omega) | (have := HCL.out; omega)) (SUM14.out)).mono ?_
  rintro e w15 ⟨v, rfl, hown, hE⟩
  have HE15 := Lib.hid (HE14.out.trans' hE); have SUM15 := Lib.hid (SUM14.out.ext hE); have OTH15 := Lib.hid (OTH14.out.ext hE); clear hE SUM14 OTH14 HE14
  obtain ⟨A15, c15, rfl, -, hat⟩ := dplain_slice (n := S.length) hown (by rw [List.length_map])
  have P15 := Lib.hid (hat)
  clear hown hat
  go_wp2_with (fail)
  go_at_call 15
  refine (lDeciOwn B m d k _ HK.out (by first | omega | (have := HSL.out; omega) | (have := HCL.out; omega)) (HB.out.ext HE15.out)).mono ?_
  rintro e w16 ⟨v, rfl, hown, hE⟩
  have HE16 := Lib.hid (HE15.out.trans' hE); have SUM16 := Lib.hid (SUM15.out.ext hE); have OTH16 := Lib.hid (OTH15.out.ext hE); have P16 := Lib.hid (P15.out.ext hE); clear hE SUM15 OTH15 P15 HE15
  obtain ⟨A16, c16, rfl, -, hat⟩ := dplain_slice (n := m) hown HK.out
  have Q16 := Lib.hid (hat)
  clear hown hat
  have HX := Lib.hid (by have h := iDecSub A15 A16 S.length c15 m c16 (S.map dback) k w16 (by rw [List.length_map]) HK.out (by have := HSL.out; omega) (by omega) P16.out Q16.out DS.out D4.out (TW.out.ext HE16.out) (by rw [E3.out]; exact FU.out); rw [E3.out] at h; exact h.mono fun e w' => retSub_ok (right_nonneg RU.out))
  go_wp2_with (fail)
  go_at_call 30
  refine (HX.out).mono ?_
  rintro e w17 ⟨v, rfl, hown, hE⟩
  have HE17 := Lib.hid (HE16.out.trans' hE); have SUM17 := Lib.hid (SUM16.out.ext hE); have OTH17 := Lib.hid (OTH16.out.ext hE); have P17 := Lib.hid (P16.out.ext hE); have Q17 := Lib.hid (Q16.out.ext hE); clear hE SUM16 OTH16 P16 Q16 HE16
  clear HX
  obtain ⟨A17, c17, rfl, -, hat⟩ := dplain_slice (n := U.length) hown (by rw [List.length_map])
  have BACK17 := Lib.hid (hat)
  clear hown hat
  go_wp2_with (fail)
  go_at_call 15
  refine (lDeciOwn A n c l _ HL.out (by first | omega | (have := HSL.out; omega) | (have := HCL.out; omega)) (HA.out.ext HE17.out)).mono ?_
  rintro e w18 ⟨v, rfl, hown, hE⟩
  have HE18 := Lib.hid (HE17.out.trans' hE); have SUM18 := Lib.hid (SUM17.out.ext hE); have OTH18 := Lib.hid (OTH17.out.ext hE); have BACK18 := Lib.hid (BACK17.out.ext hE); clear hE SUM17 OTH17 BACK17 HE17
  obtain ⟨A18, c18, rfl, -, hat⟩ := dplain_slice (n := n) hown HL.out
  have P18 := Lib.hid (hat)
  clear hown hat
  go_wp2_with (fail)
  go_at_call 15
  refine (lDeciOwn B m d k _ HK.out (by first | omega | (have := HSL.out; omega) | (have := HCL.out; omega)) (HB.out.ext HE18.out)).mono ?_
  rintro e w19 ⟨v, rfl, hown, hE⟩
  have HE19 := Lib.hid (HE18.out.trans' hE); have SUM19 := Lib.hid (SUM18.out.ext hE); have OTH19 := Lib.hid (OTH18.out.ext hE); have BACK19 := Lib.hid (BACK18.out.ext hE); have P19 := Lib.hid (P18.out.ext hE); clear hE SUM18 OTH18 BACK18 P18 HE18
  obtain ⟨A19, c19, rfl, -, hat⟩ := dplain_slice (n := m) hown HK.out
  have Q19 := Lib.hid (hat)
  clear hown hat
  have HX := Lib.hid (by have h := iDecIntersect A18 A19 n c18 m c19 l k w19 HL.out HK.out (by omega) (by omega) P19.out Q19.out D3.out D4.out F4.out.2.2 (TW.out.ext HE19.out) (by rw [E4.out]; exact FC.out) (by rw [E4.out]; have := HCL.out; omega); rw [E4.out] at h; exact h)
  go_wp2_with (fail)
  go_at_call 31
  refine (HX.out).mono ?_
  rintro e w20 ⟨v, rfl, hown, hE⟩
  have HE20 := Lib.hid (HE19.out.trans' hE); have SUM20 := Lib.hid (SUM19.out.ext hE); have OTH20 := Lib.hid (OTH19.out.ext hE); have BACK20 := Lib.hid (BACK19.out.ext hE); have P20 := Lib.hid (P19.out.ext hE); have Q20 := Lib.hid (Q19.out.ext hE); clear hE SUM19 OTH19 BACK19 P19 Q19 HE19
  clear HX
  obtain ⟨A20, c20, rfl, -, hat⟩ := dplain_slice (n := C.length) hown (by rw [List.length_map])
  have BOTH20 := Lib.hid (hat)
  clear hown hat
  go_wp2_with (fail)
  go_at_call 15
  refine (lDeciOwn B m d k _ HK.out (by first | omega | (have := HSL.out; omega) | (have := HCL.out; omega)) (HB.out.ext HE20.out)).mono ?_
  rintro e w21 ⟨v, rfl, hown, hE⟩
  have HE21 := Lib.hid (HE20.out.trans' hE); have SUM21 := Lib.hid (SUM20.out.ext hE); have OTH21 := Lib.hid (OTH20.out.ext hE); have BACK21 := Lib.hid (BACK20.out.ext hE); have BOTH21 := Lib.hid (BOTH20.out.ext hE); clear hE SUM20 OTH20 BACK20 BOTH20 HE20
  obtain ⟨A21, c21, rfl, -, hat⟩ := dplain_slice (n := m) hown HK.out
  have Q21 := Lib.hid (hat)
  clear hown hat
  go_wp2_with (fail)
  go_at_call 15
  refine (lDeciOwn A n c l _ HL.out (by first | omega | (have := HSL.out; omega) | (have := HCL.out; omega)) (HA.out.ext HE21.out)).mono ?_
  rintro e w22 ⟨v, rfl, hown, hE⟩
  have HE22 := Lib.hid (HE21.out.trans' hE); have SUM22 := Lib.hid (SUM21.out.ext hE); have OTH22 := Lib.hid (OTH21.out.ext hE); have BACK22 := Lib.hid (BACK21.out.ext hE); have BOTH22 := Lib.hid (BOTH21.out.ext hE); have Q22 := Lib.hid (Q21.out.ext hE); clear hE SUM21 OTH21 BACK21 BOTH21 Q21 HE21
  obtain ⟨A22, c22, rfl, -, hat⟩ := dplain_slice (n := n) hown HL.out
  have P22 := Lib.hid (hat)
  clear hown hat
  have HX := Lib.hid (by have h := iDecIntersect A21 A22 m c21 n c22 k l w22 HK.out HL.out (by omega) (by omega) Q22.out P22.out D4.out D3.out F3.out.2.2 (TW.out.ext HE22.out) (by rw [E5.out]; exact FC.out) (by rw [E5.out]; have := HCL.out; omega); rw [E5.out] at h; exact h)
  go_wp2_with (fail)
  go_at_call 31
  refine (HX.out).mono ?_
  rintro e w23 ⟨v, rfl, hown, hE⟩
  have HE23 := Lib.hid (HE22.out.trans' hE); have SUM23 := Lib.hid (SUM22.out.ext hE); have OTH23 := Lib.hid (OTH22.out.ext hE); have BACK23 := Lib.hid (BACK22.out.ext hE); have BOTH23 := Lib.hid (BOTH22.out.ext hE); have Q23 := Lib.hid (Q22.out.ext hE); have P23 := Lib.hid (P22.out.ext hE); clear hE SUM22 OTH22 BACK22 BOTH22 Q22 P22 HE22
  clear HX
  obtain ⟨A23, c23, rfl, -, hat⟩ := dplain_slice (n := C.length) hown (by rw [List.length_map])
  have ALSO23 := Lib.hid (hat)
  clear hown hat
  go_wp2_with (fail)
  go_at_call 15
  refine (lDeciOwn A11 S.length c11 (S.map dback) _ (by rw [List.length_map]) (by first | omega | (have := HSL.out; omega) | (have := HCL.out; omega)) (SUM23.out)).mono ?_
  rintro e w24 ⟨v, rfl, hown, hE⟩
  have HE24 := Lib.hid (HE23.out.trans' hE); have SUM24 := Lib.hid (SUM23.out.ext hE); have OTH24 := Lib.hid (OTH23.out.ext hE); have BACK24 := Lib.hid (BACK23.out.ext hE); have BOTH24 := Lib.hid (BOTH23.out.ext hE); have ALSO24 := Lib.hid (ALSO23.out.ext hE); clear hE SUM23 OTH23 BACK23 BOTH23 ALSO23 HE23
  obtain ⟨A24, c24, rfl, -, hat⟩ := dplain_slice (n := S.length) hown (by rw [List.length_map])
  have P24 := Lib.hid (hat)
  clear hown hat
  have HX := Lib.hid (show Calls Tryz.prog 32 #[.slice A24 S.length c24] w24 (RetE (.string ⟨#[]⟩) w24) by have h := iDecErr A24 S.length c24 (S.map dback) w24 (by rw [List.length_map]) (by first | (have := HSL.out; omega) | (have := HCL.out; omega)) P24.out DS.out (sizes_back fun x hx => by have := right_size RS.out x hx; unfold maxLen; omega) (TW.out.ext HE24.out); rw [dbacks_dval, right_dErr RS.out] at h; exact h)
  go_wp2_with (fail)
  go_at_call 32
  refine (HX.out).mono ?_
  rintro e w25 ⟨rfl, hE⟩
  have HE25 := Lib.hid (HE24.out.trans' hE); have SUM25 := Lib.hid (SUM24.out.ext hE); have OTH25 := Lib.hid (OTH24.out.ext hE); have BACK25 := Lib.hid (BACK24.out.ext hE); have BOTH25 := Lib.hid (BOTH24.out.ext hE); have ALSO25 := Lib.hid (ALSO24.out.ext hE); have P25 := Lib.hid (P24.out.ext hE); clear hE SUM24 OTH24 BACK24 BOTH24 ALSO24 P24 HE24
  clear HX
  go_wp2_with (fail)
  go_at_call 15
  refine (lDeciOwn A20 C.length c20 (C.map dback) _ (by rw [List.length_map]) (by first | omega | (have := HSL.out; omega) | (have := HCL.out; omega)) (BOTH25.out)).mono ?_
  rintro e w26 ⟨v, rfl, hown, hE⟩
  have HE26 := Lib.hid (HE25.out.trans' hE); have SUM26 := Lib.hid (SUM25.out.ext hE); have OTH26 := Lib.hid (OTH25.out.ext hE); have BACK26 := Lib.hid (BACK25.out.ext hE); have BOTH26 := Lib.hid (BOTH25.out.ext hE); have ALSO26 := Lib.hid (ALSO25.out.ext hE); clear hE SUM25 OTH25 BACK25 BOTH25 ALSO25 HE25
  obtain ⟨A26, c26, rfl, -, hat⟩ := dplain_slice (n := C.length) hown (by rw [List.length_map])
  have P26 := Lib.hid (hat)
  clear hown hat
  have HX := Lib.hid (show Calls Tryz.prog 32 #[.slice A26 C.length c26] w26 (RetE (.string ⟨#[]⟩) w26) by have h := iDecErr A26 C.length c26 (C.map dback) w26 (by rw [List.length_map]) (by first | (have := HSL.out; omega) | (have := HCL.out; omega)) P26.out DC.out (sizes_back fun x hx => by have := right_size RC.out x hx; unfold maxLen; omega) (TW.out.ext HE26.out); rw [dbacks_dval, right_dErr RC.out] at h; exact h)
  go_wp2_with (fail)
  go_at_call 32
  refine (HX.out).mono ?_
  rintro e w27 ⟨rfl, hE⟩
  have HE27 := Lib.hid (HE26.out.trans' hE); have SUM27 := Lib.hid (SUM26.out.ext hE); have OTH27 := Lib.hid (OTH26.out.ext hE); have BACK27 := Lib.hid (BACK26.out.ext hE); have BOTH27 := Lib.hid (BOTH26.out.ext hE); have ALSO27 := Lib.hid (ALSO26.out.ext hE); have P27 := Lib.hid (P26.out.ext hE); clear hE SUM26 OTH26 BACK26 BOTH26 ALSO26 P26 HE26
  clear HX
  go_wp2_with (fail)
  go_at_call 15
  refine (lDeciOwn A n c l _ HL.out (by first | omega | (have := HSL.out; omega) | (have := HCL.out; omega)) (HA.out.ext HE27.out)).mono ?_
  rintro e w28 ⟨v, rfl, hown, hE⟩
  have HE28 := Lib.hid (HE27.out.trans' hE); have SUM28 := Lib.hid (SUM27.out.ext hE); have OTH28 := Lib.hid (OTH27.out.ext hE); have BACK28 := Lib.hid (BACK27.out.ext hE); have BOTH28 := Lib.hid (BOTH27.out.ext hE); have ALSO28 := Lib.hid (ALSO27.out.ext hE); clear hE SUM27 OTH27 BACK27 BOTH27 ALSO27 HE27
  obtain ⟨A28, c28, rfl, -, hat⟩ := dplain_slice (n := n) hown HL.out
  have P28 := Lib.hid (hat)
  clear hown hat
  go_wp2_with (fail)
  go_at_call 15
  refine (lDeciOwn A20 C.length c20 (C.map dback) _ (by rw [List.length_map]) (by first | omega | (have := HSL.out; omega) | (have := HCL.out; omega)) (BOTH28.out)).mono ?_
  rintro e w29 ⟨v, rfl, hown, hE⟩
  have HE29 := Lib.hid (HE28.out.trans' hE); have SUM29 := Lib.hid (SUM28.out.ext hE); have OTH29 := Lib.hid (OTH28.out.ext hE); have BACK29 := Lib.hid (BACK28.out.ext hE); have BOTH29 := Lib.hid (BOTH28.out.ext hE); have ALSO29 := Lib.hid (ALSO28.out.ext hE); have P29 := Lib.hid (P28.out.ext hE); clear hE SUM28 OTH28 BACK28 BOTH28 ALSO28 P28 HE28
  obtain ⟨A29, c29, rfl, -, hat⟩ := dplain_slice (n := C.length) hown (by rw [List.length_map])
  have Q29 := Lib.hid (hat)
  clear hown hat
  have HX := Lib.hid (by have h := iDecSafe A28 A29 n c28 C.length c29 l (C.map dback) w29 HL.out (by rw [List.length_map]) (by omega) (by have := HCL.out; omega) P29.out Q29.out D3.out DC.out (TW.out.ext HE29.out) F6.out; unfold RetSafe at h; rw [E6.out] at h; exact h)
  go_wp2_with (fail)
  go_at_call 33
  refine (HX.out).mono ?_
  rintro e w30 ⟨v, rfl, hown, hE⟩
  have HE30 := Lib.hid (HE29.out.trans' hE); have SUM30 := Lib.hid (SUM29.out.ext hE); have OTH30 := Lib.hid (OTH29.out.ext hE); have BACK30 := Lib.hid (BACK29.out.ext hE); have BOTH30 := Lib.hid (BOTH29.out.ext hE); have ALSO30 := Lib.hid (ALSO29.out.ext hE); have P30 := Lib.hid (P29.out.ext hE); have Q30 := Lib.hid (Q29.out.ext hE); clear hE SUM29 OTH29 BACK29 BOTH29 ALSO29 P29 Q29 HE29
  clear HX hown
  go_wp2_with (fail)
  go_at_call 15
  refine (lDeciOwn B m d k _ HK.out (by first | omega | (have := HSL.out; omega) | (have := HCL.out; omega)) (HB.out.ext HE30.out)).mono ?_
  rintro e w31 ⟨v, rfl, hown, hE⟩
  have HE31 := Lib.hid (HE30.out.trans' hE); have SUM31 := Lib.hid (SUM30.out.ext hE); have OTH31 := Lib.hid (OTH30.out.ext hE); have BACK31 := Lib.hid (BACK30.out.ext hE); have BOTH31 := Lib.hid (BOTH30.out.ext hE); have ALSO31 := Lib.hid (ALSO30.out.ext hE); clear hE SUM30 OTH30 BACK30 BOTH30 ALSO30 HE30
  obtain ⟨A31, c31, rfl, -, hat⟩ := dplain_slice (n := m) hown HK.out
  have P31 := Lib.hid (hat)
  clear hown hat
  go_wp2_with (fail)
  go_at_call 15
  refine (lDeciOwn A20 C.length c20 (C.map dback) _ (by rw [List.length_map]) (by first | omega | (have := HSL.out; omega) | (have := HCL.out; omega)) (BOTH31.out)).mono ?_
  rintro e w32 ⟨v, rfl, hown, hE⟩
  have HE32 := Lib.hid (HE31.out.trans' hE); have SUM32 := Lib.hid (SUM31.out.ext hE); have OTH32 := Lib.hid (OTH31.out.ext hE); have BACK32 := Lib.hid (BACK31.out.ext hE); have BOTH32 := Lib.hid (BOTH31.out.ext hE); have ALSO32 := Lib.hid (ALSO31.out.ext hE); have P32 := Lib.hid (P31.out.ext hE); clear hE SUM31 OTH31 BACK31 BOTH31 ALSO31 P31 HE31
  obtain ⟨A32, c32, rfl, -, hat⟩ := dplain_slice (n := C.length) hown (by rw [List.length_map])
  have Q32 := Lib.hid (hat)
  clear hown hat
  have HX := Lib.hid (by have h := iDecSafe A31 A32 m c31 C.length c32 k (C.map dback) w32 HK.out (by rw [List.length_map]) (by omega) (by have := HCL.out; omega) P32.out Q32.out D4.out DC.out (TW.out.ext HE32.out) F7.out; unfold RetSafe at h; rw [E7.out] at h; exact h)
  go_wp2_with (fail)
  go_at_call 33
  refine (HX.out).mono ?_
  rintro e w33 ⟨v, rfl, hown, hE⟩
  have HE33 := Lib.hid (HE32.out.trans' hE); have SUM33 := Lib.hid (SUM32.out.ext hE); have OTH33 := Lib.hid (OTH32.out.ext hE); have BACK33 := Lib.hid (BACK32.out.ext hE); have BOTH33 := Lib.hid (BOTH32.out.ext hE); have ALSO33 := Lib.hid (ALSO32.out.ext hE); have P33 := Lib.hid (P32.out.ext hE); have Q33 := Lib.hid (Q32.out.ext hE); clear hE SUM32 OTH32 BACK32 BOTH32 ALSO32 P32 Q32 HE32
  clear HX hown
  go_wp2_with (fail)
  go_at_call 13
  refine (deciAwake _ (TW.out.ext HE33.out)).mono ?_
  rintro e w34 ⟨rfl, hE⟩
  have HE34 := Lib.hid (HE33.out.trans' hE); have SUM34 := Lib.hid (SUM33.out.ext hE); have OTH34 := Lib.hid (OTH33.out.ext hE); have BACK34 := Lib.hid (BACK33.out.ext hE); have BOTH34 := Lib.hid (BOTH33.out.ext hE); have ALSO34 := Lib.hid (ALSO33.out.ext hE); clear hE SUM33 OTH33 BACK33 BOTH33 ALSO33 HE33
  have HX := Lib.hid (show Calls Tryz.prog 34 #[.slice A11 S.length c11, .slice A14 S.length c14] w34 (RetE (.bool true) w34) by have h := iDecEqual A11 A14 S.length c11 S.length c14 (S.map dback) (S.map dback) w34 S S (by rw [List.length_map]) (by rw [List.length_map]) (sortDP_back (by have := HSL.out; omega) RS.out.1) (sortDP_back (by have := HSL.out; omega) RS.out.1) SUM34.out OTH34.out DS.out DS.out (TW.out.ext HE34.out) (by rw [dbacks_dval]) RS.out.1 (by rw [dbacks_dval]) RS.out.1; rw [decide_eq_true rfl] at h; exact h)
  go_wp2_with (fail)
  go_at_call 34
  refine (HX.out).mono ?_
  rintro e w35 ⟨rfl, hE⟩
  have HE35 := Lib.hid (HE34.out.trans' hE); have SUM35 := Lib.hid (SUM34.out.ext hE); have OTH35 := Lib.hid (OTH34.out.ext hE); have BACK35 := Lib.hid (BACK34.out.ext hE); have BOTH35 := Lib.hid (BOTH34.out.ext hE); have ALSO35 := Lib.hid (ALSO34.out.ext hE); clear hE SUM34 OTH34 BACK34 BOTH34 ALSO34 HE34
  clear HX
  go_wp2_with (fail)
  go_at_call 15
  refine (lDeciOwn A n c l _ HL.out (by first | omega | (have := HSL.out; omega) | (have := HCL.out; omega)) (HA.out.ext HE35.out)).mono ?_
  rintro e w36 ⟨v, rfl, hown, hE⟩
  have HE36 := Lib.hid (HE35.out.trans' hE); have BACK36 := Lib.hid (BACK35.out.ext hE); have BOTH36 := Lib.hid (BOTH35.out.ext hE); have ALSO36 := Lib.hid (ALSO35.out.ext hE); clear hE BACK35 BOTH35 ALSO35 HE35
  obtain ⟨A36, c36, rfl, -, hat⟩ := dplain_slice (n := n) hown HL.out
  have P36 := Lib.hid (hat)
  clear hown hat
  have HX := Lib.hid (show Calls Tryz.prog 34 #[.slice A17 U.length c17, .slice A36 n c36] w36 (RetE (.bool true) w36) by have h := iDecEqual A17 A36 U.length c17 n c36 (U.map dback) l w36 U U (by rw [List.length_map]) HL.out (sortDP_back (by have := HUL.out; omega) RU.out.1) (Or.inl (by rw [HL.out]; exact hn12)) BACK36.out P36.out DU.out D3.out (TW.out.ext HE36.out) (by rw [dbacks_dval]) RU.out.1 (by rw [HU.out]) RU.out.1; rw [decide_eq_true rfl] at h; exact h)
  go_wp2_with (fail)
  go_at_call 34
  refine (HX.out).mono ?_
  rintro e w37 ⟨rfl, hE⟩
  have HE37 := Lib.hid (HE36.out.trans' hE); have BACK37 := Lib.hid (BACK36.out.ext hE); have BOTH37 := Lib.hid (BOTH36.out.ext hE); have ALSO37 := Lib.hid (ALSO36.out.ext hE); have P37 := Lib.hid (P36.out.ext hE); clear hE BACK36 BOTH36 ALSO36 P36 HE36
  clear HX
  have HX := Lib.hid (show Calls Tryz.prog 34 #[.slice A20 C.length c20, .slice A23 C.length c23] w37 (RetE (.bool true) w37) by have h := iDecEqual A20 A23 C.length c20 C.length c23 (C.map dback) (C.map dback) w37 C C (by rw [List.length_map]) (by rw [List.length_map]) (sortDP_back (by have := HCL.out; omega) RC.out.1) (sortDP_back (by have := HCL.out; omega) RC.out.1) BOTH37.out ALSO37.out DC.out DC.out (TW.out.ext HE37.out) (by rw [dbacks_dval]) RC.out.1 (by rw [dbacks_dval]) RC.out.1; rw [decide_eq_true rfl] at h; exact h)
  go_wp2_with (fail)
  go_at_call 34
  refine (HX.out).mono ?_
  rintro e w38 ⟨rfl, hE⟩
  have HE38 := Lib.hid (HE37.out.trans' hE); have BOTH38 := Lib.hid (BOTH37.out.ext hE); have ALSO38 := Lib.hid (ALSO37.out.ext hE); clear hE BOTH37 ALSO37 HE37
  clear HX
  go_wp2
  go_ret
  exact ⟨rfl, HE38.out⟩
end Go.Proofs.YtfocejhcdcnnhaaGreatDoor
