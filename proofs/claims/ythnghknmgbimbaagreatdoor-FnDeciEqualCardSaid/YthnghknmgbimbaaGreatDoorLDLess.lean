/-
  The law FnDeciLess, for all inputs.
-/
import Derived.Test.YthnghknmgbimbaaGreatDoorLDAdd
import Derived.Test.YthnghknmgbimbaaGreatDoorHA
namespace Go.Proofs.YthnghknmgbimbaaGreatDoor
open Go Go.RowKit

theorem dnegs_bound {l : List (ByteArray × Int)} {m : Nat} (h : ∀ x ∈ l, x.2.natAbs ≤ m) : ∀ x ∈ dnegs l, x.2.natAbs ≤ m := fun x hx => by
  have := h _ (dnegs_mem hx)
  simpa using this
theorem dval_bound {l : List DP} (h : ∀ x ∈ l, DecB x.2.1 x.2.2) : ∀ x ∈ l.map dval, x.2.natAbs ≤ 1000000000001 * 1000000000000000000 := by
  intro x hx
  obtain ⟨y, hy, rfl⟩ := List.mem_map.1 hx
  obtain ⟨⟨a, b⟩, c, d⟩ := h y hy
  show (decV y.2.1 y.2.2).natAbs ≤ _
  unfold decV T18
  omega
theorem lists_fit {l r : List (ByteArray × Int)} (h1 : l.length ≤ 24) (hb : ∀ x ∈ l, x.2.natAbs ≤ 1000000000001 * 1000000000000000000) (h : SumsTo l r) : ∀ x ∈ r, FitT x.2 := by
  intro x hx
  rw [← tot_get h.1 hx, h.2.2 x.1]
  have := Nat.le_trans (totalP_bound' x.1 hb) (Nat.mul_le_mul_right _ h1)
  unfold FitT; omega
theorem fit_b64 {z : Int} (h : FitT z) : z.natAbs < B64 ^ 4 := by unfold FitT at h; unfold B64; omega
theorem bound_b64 {z : Int} (h : z.natAbs ≤ 1000000000001 * 1000000000000000000) : z.natAbs < B64 ^ 2 := by unfold B64; omega

set_option maxRecDepth 100000 in
set_option maxHeartbeats 4000000 in
theorem lawDLess (A : Option Addr) (n c : Nat) (l : List DP) (B : Option Addr) (m d : Nat) (k : List DP) (w : World) (hl : l.length = n) (hn : n ≤ 9223372036854775807) (hA : DPlainAt w A l) (hk : k.length = m) (hm : m ≤ 9223372036854775807) (hB : DPlainAt w B k) (hT : Thr w) :
    Calls Tryz.prog 6 #[.slice A n c, .slice B m d] w (RetE (.bool true) w) := by
  obtain ⟨i0, hi, hz0, hz1, hz2⟩ := info_parts infoDe
  have HL := Lib.hid hl; have HK := Lib.hid hk; have HA := Lib.hid hA; have HB := Lib.hid hB; have TW := Lib.hid hT
  clear hl hk hA hB hT
  go_enter Tryz.func6, Tryz.ntmps6
  go_wp2_with (fail)
  go_at_call 16
  refine (zFits3 A n c l _ HL.out hn HA.out).mono ?_
  rintro e w1 ⟨r, rfl, hf, hE⟩
  have HE1 := Lib.hid hE; clear hE hf
  cases r
  · go_wp2
    go_ret
    exact ⟨rfl, HE1.out⟩
  go_wp2_with (fail)
  go_at_call 16
  refine (zFits3 B m d k _ HK.out hm (HB.out.ext HE1.out)).mono ?_
  rintro e w2 ⟨r, rfl, hf, hE⟩
  have HE2 := Lib.hid (HE1.out.trans' hE); clear hE hf
  cases r
  · go_wp2
    go_ret
    exact ⟨rfl, HE2.out⟩
  go_wp2_with (fail)
  go_at_call 17
  refine (lDeciApart A n c l _ HL.out hn (HA.out.ext HE2.out)).mono ?_
  rintro e w3 ⟨r, rfl, hf, hE⟩
  have HE3 := Lib.hid (HE2.out.trans' hE); have HF3 := Lib.hid hf; clear hE hf
  cases r
  · go_wp2_with (go_at_call 18; refine (deciAwake _ (TW.out.ext HE3.out)).mono ?_; rintro e w4 ⟨rfl, hE⟩; have HE4 := Lib.hid (HE3.out.trans' hE); clear hE)
    go_ret
    exact ⟨rfl, HE4.out⟩
  go_wp2_with (fail)
  go_at_call 17
  refine (lDeciApart B m d k _ HK.out hm (HB.out.ext HE3.out)).mono ?_
  rintro e w4 ⟨r, rfl, hf, hE⟩
  have HE4 := Lib.hid (HE3.out.trans' hE); have HF4 := Lib.hid hf; clear hE hf
  cases r
  · go_wp2_with (go_at_call 18; refine (deciAwake _ (TW.out.ext HE4.out)).mono ?_; rintro e w5 ⟨rfl, hE⟩; have HE5 := Lib.hid (HE4.out.trans' hE); clear hE)
    go_ret
    exact ⟨rfl, HE5.out⟩
  have F3 := Lib.hid (HF3.out trivial); have F4 := Lib.hid (HF4.out rfl)
  have hn12 : n ≤ 12 := by have := F3.out.1; rw [HL.out] at this; exact this
  have hm12 : m ≤ 12 := by have := F4.out.1; rw [HK.out] at this; exact this
  obtain ⟨S, hS⟩ : ∃ S, S = dsub l k := ⟨_, rfl⟩
  have HSUM := Lib.hid (show SumsTo (l.map dval ++ dnegs (k.map dval)) S by rw [hS]; exact dmrg_sums _ _ F3.out.2.2 (dnegs_asc F4.out.2.2))
  have HLD := Lib.hid (show (l.map dval).length = n by rw [List.length_map]; exact HL.out)
  have HKD := Lib.hid (show (dnegs (k.map dval)).length = m by rw [dnegs_len, List.length_map]; exact HK.out)
  have HBND := Lib.hid (show ∀ x ∈ l.map dval ++ dnegs (k.map dval), x.2.natAbs ≤ 1000000000001 * 1000000000000000000 from fun x hx => by
    rcases List.mem_append.1 hx with hx | hx
    · exact dval_bound F3.out.2.1 x hx
    · exact dnegs_bound (dval_bound F4.out.2.1) x hx)
  have HFIT := Lib.hid (lists_fit (by rw [List.length_append, HLD.out, HKD.out]; omega) HBND.out HSUM.out)
  have HS := Lib.hid hS
  have hS24 : S.length ≤ 24 := by have := sums_len HSUM.out; rw [List.length_append, HLD.out, HKD.out] at this; omega
  have HS24 := Lib.hid hS24
  clear HF3 HF4 hS hS24
  go_wp2_with (fail)
  go_at_call 23
  refine (lDeciOf A n c l _ HL.out (by omega) (HA.out.ext HE4.out) F3.out.2.1).mono ?_
  rintro e w9 ⟨v9, rfl, hown9, hE⟩
  have HE9 := Lib.hid (HE4.out.trans' hE); have E49 := Lib.hid hE; clear hE
  have HO9 := Lib.hid hown9; clear hown9
  go_wp2_with (fail)
  go_at_call 23
  refine (lDeciOf B m d k _ HK.out (by omega) (HB.out.ext HE9.out) F4.out.2.1).mono ?_
  rintro e w10 ⟨v10, rfl, hown, hE⟩
  have HE10 := Lib.hid (HE9.out.trans' hE); have HO10 := Lib.hid (HO9.out.ext hE); have E410 := Lib.hid (E49.out.trans' hE); clear hE HO9
  obtain ⟨B10, c10, rfl, -, hat10⟩ := de_slice (n := m) hown (by rw [List.length_map]; exact HK.out)
  have HL10 := Lib.hid (sDeLess B10 m c10 (k.map dval) w10 (by rw [List.length_map]; exact HK.out) (by omega) hat10 (fun x hx => Nat.lt_of_lt_of_le (bound_b64 (dval_bound F4.out.2.1 x hx)) b64_24))
  clear hown hat10
  go_wp2_with (fail)
  go_at_call 33
  refine HL10.out.mono ?_
  rintro e w11 ⟨v11, rfl, hown, hE⟩
  have HE11 := Lib.hid (HE10.out.trans' hE); have HO11 := Lib.hid (HO10.out.ext hE); have E411 := Lib.hid (E410.out.trans' hE); clear hE HO10
  obtain ⟨B11, c11, rfl, -, hat11⟩ := de_slice (n := m) hown HKD.out
  have HNEW := Lib.hid (show m ≠ 0 → ∃ g of, B11 = some ⟨g, of, none⟩ ∧ ∀ j u, (flat6 (dnegs (k.map dval)))[j]? = some u → w11.cell? ⟨g, of + j, none⟩ = some u from fun h0 => flat6_cells hat11 (by intro e; rw [e] at HKD; exact h0 HKD.out.symm))
  clear hown hat11
  go_wp2_with (first | (at_builtin; refine wpList_append_rows (by rfl) (.tmp 29) (.tmp 32) 29 46 rfl w4.heap.size i0 _ 6 56 Tryz.underlying29 hi hz0 hz1 hz2 rfl (by decide) v9 n (flat6 (l.map dval)) rfl (by have := HO11.out; unfold DeOwn at this; rw [HLD.out] at this; exact this) B11 m c11 (flat6 (dnegs (k.map dval))) rfl (by rw [flat6_length, HKD.out]) HNEW.out (six_one' _) (by unfold maxLen; omega) (by omega) E411.out.size ?_; intro v12 w12 hown hgrow; have HO12 := Lib.hid hown; have HE12 := Lib.hid (hgrow w4 E411.out (Nat.le_refl _)); clear hown hgrow) | fail)
  have HO13 := Lib.hid (show DeOwn w12 w4.heap.size v12 (l.map dval ++ dnegs (k.map dval)) by unfold DeOwn; rw [List.length_append, HLD.out, HKD.out, flat6_append]; exact HO12.out)
  obtain ⟨A13, c13, rfl, -, hat13⟩ := de_slice (n := n + m) HO13.out (by rw [List.length_append, HLD.out, HKD.out])
  have HALL := Lib.hid (sDeAll A13 (n + m) c13 (l.map dval ++ dnegs (k.map dval)) w12 (by rw [List.length_append, HLD.out, HKD.out]) (by omega) hat13 (fun x hx => bound_b64 (HBND.out x hx)))
  have HX12 := Lib.hid (HE4.out.trans' HE12.out)
  clear hat13
  go_at_call 22
  refine HALL.out.mono ?_
  rintro e w14 ⟨r, ⟨v14, rfl, hown, hE⟩, hsum⟩
  obtain rfl : r = S := sums_unique hsum HSUM.out fun _ => rfl
  have HE14 := Lib.hid (HX12.out.trans' hE)
  obtain ⟨A14, c14, rfl, -, hat14⟩ := de_slice (n := r.length) hown rfl
  have HW14 := Lib.hid hat14
  clear hown hat14 hE hsum HALL
  go_wp2_with (fail)
  go_at_call 20
  refine (lDeciOwn A n c l _ HL.out (by omega) (HA.out.ext HE14.out)).mono ?_
  rintro e w15 ⟨v15, rfl, hown, hE⟩
  have HE15 := Lib.hid (HE14.out.trans' hE); have HW15 := Lib.hid (HW14.out.ext hE); clear hE
  obtain ⟨A15, c15, rfl, -, hat15⟩ := dplain_slice (n := n) hown HL.out
  have HA15 := Lib.hid hat15
  clear hown hat15
  go_wp2_with (fail)
  go_at_call 20
  refine (lDeciOwn B m d k _ HK.out (by omega) (HB.out.ext HE15.out)).mono ?_
  rintro e w16 ⟨v16, rfl, hown, hE⟩
  have HE16 := Lib.hid (HE15.out.trans' hE); have HA16 := Lib.hid (HA15.out.ext hE); have HW16 := Lib.hid (HW15.out.ext hE); clear hE
  obtain ⟨A16, c16, rfl, -, hat16⟩ := dplain_slice (n := m) hown HK.out
  have HB16 := Lib.hid hat16
  clear hown hat16 HA15
  obtain ⟨nb, hnb⟩ : ∃ nb, nb = dAnyNeg r := ⟨_, rfl⟩
  have HNB := Lib.hid hnb; clear hnb
  have HSAFE := Lib.hid (iDecSafe A15 A16 n c15 m c16 l k w16 HL.out HK.out (by omega) (by omega) HA16.out HB16.out F3.out.2.1 F4.out.2.1 (TW.out.ext HE16.out) (by rw [← HS.out]; exact HFIT.out))
  unfold RetSafe at HSAFE
  rw [← HS.out, ← HNB.out] at HSAFE
  go_wp2_with (fail)
  go_at_call 34
  refine HSAFE.out.mono ?_
  rintro e w17 ⟨v17, rfl, hown, hE⟩
  have HE17 := Lib.hid (HE16.out.trans' hE); have HW17 := Lib.hid (HW16.out.ext hE); clear hE
  obtain ⟨A17, c17, rfl, -, hat17⟩ := dplain_slice (n := r.length) hown (by rw [List.length_map])
  have HIS := Lib.hid (lIsAll A17 A14 r.length c17 c14 r w17 rfl (by have := HS24.out; omega) hat17 HW17.out HFIT.out)
  clear hown hat17 HSAFE
  go_wp2_with (fail)
  go_at_call 21
  refine HIS.out.mono ?_
  rintro e w18 ⟨rfl, hE⟩
  have HE18 := Lib.hid (HE17.out.trans' hE); have HW18 := Lib.hid (HW17.out.ext hE); clear hE HIS
  have HNG := Lib.hid (sNegative A14 r.length c14 r w18 rfl (by have := HS24.out; omega) HW18.out (fun x hx => fit_b64 (HFIT.out x hx)))
  rw [← HNB.out] at HNG
  go_wp2_with (fail)
  go_at_call 35
  refine HNG.out.mono ?_
  rintro e w19 ⟨rfl, hE⟩
  have HE19 := Lib.hid (HE18.out.trans' hE); have HW19 := Lib.hid (HW18.out.ext hE); clear hE HNG
  cases nb
  · go_wp2_with (fail)
    go_at_call 20
    refine (lDeciOwn A n c l _ HL.out (by omega) (HA.out.ext HE19.out)).mono ?_
    rintro e w20 ⟨v20, rfl, hown, hE⟩
    have HE20 := Lib.hid (HE19.out.trans' hE); have HW20 := Lib.hid (HW19.out.ext hE); clear hE
    obtain ⟨A20, c20, rfl, -, hat20⟩ := dplain_slice (n := n) hown HL.out
    have HA20 := Lib.hid hat20
    clear hown hat20
    go_wp2_with (fail)
    go_at_call 20
    refine (lDeciOwn B m d k _ HK.out (by omega) (HB.out.ext HE20.out)).mono ?_
    rintro e w21 ⟨v21, rfl, hown, hE⟩
    have HE21 := Lib.hid (HE20.out.trans' hE); have HA21 := Lib.hid (HA20.out.ext hE); have HW21 := Lib.hid (HW20.out.ext hE); clear hE
    obtain ⟨A21, c21, rfl, -, hat21⟩ := dplain_slice (n := m) hown HK.out
    have HB21 := Lib.hid hat21
    clear hown hat21 HA20
    have HSUB := Lib.hid (iDecSub A20 A21 n c20 m c21 l k w21 HL.out HK.out (by omega) (by omega) HA21.out HB21.out F3.out.2.1 F4.out.2.1 (TW.out.ext HE21.out) (by rw [← HS.out]; exact HFIT.out))
    unfold RetSubD at HSUB
    rw [← HS.out, ← HNB.out] at HSUB
    go_wp2_with (fail)
    go_at_call 36
    refine HSUB.out.mono ?_
    rintro e w22 ⟨v22, rfl, hown, hE⟩
    have HE22 := Lib.hid (HE21.out.trans' hE); have HW22 := Lib.hid (HW21.out.ext hE); have HOWN := Lib.hid hown; clear hE hown HSUB HNB
    have HO22 := Lib.hid (HOWN.out trivial)
    clear HOWN
    obtain ⟨A22, c22, rfl, -, hat22⟩ := dplain_slice (n := r.length) HO22.out (by rw [List.length_map])
    have HA22 := Lib.hid hat22
    clear hat22 HO22
    go_wp2_with (fail)
    go_at_call 18
    refine (deciAwake _ (TW.out.ext HE22.out)).mono ?_
    rintro e w23 ⟨rfl, hE⟩
    have HE23 := Lib.hid (HE22.out.trans' hE)
    have HIS2 := Lib.hid (lIsAll A22 A14 r.length c22 c14 r w23 rfl (by have := HS24.out; omega) (HA22.out.ext hE) (HW22.out.ext hE) HFIT.out)
    clear hE
    go_wp2_with (fail)
    go_at_call 21
    refine HIS2.out.mono ?_
    rintro e w24 ⟨rfl, hE⟩
    have HE24 := Lib.hid (HE23.out.trans' hE); clear hE
    go_wp2
    go_ret
    exact ⟨rfl, HE24.out⟩
  · go_wp2_with (fail)
    go_at_call 20
    refine (lDeciOwn A n c l _ HL.out (by omega) (HA.out.ext HE19.out)).mono ?_
    rintro e w20 ⟨v20, rfl, hown, hE⟩
    have HE20 := Lib.hid (HE19.out.trans' hE); have HW20 := Lib.hid (HW19.out.ext hE); clear hE
    obtain ⟨A20, c20, rfl, -, hat20⟩ := dplain_slice (n := n) hown HL.out
    have HA20 := Lib.hid hat20
    clear hown hat20
    go_wp2_with (fail)
    go_at_call 20
    refine (lDeciOwn B m d k _ HK.out (by omega) (HB.out.ext HE20.out)).mono ?_
    rintro e w21 ⟨v21, rfl, hown, hE⟩
    have HE21 := Lib.hid (HE20.out.trans' hE); have HA21 := Lib.hid (HA20.out.ext hE); have HW21 := Lib.hid (HW20.out.ext hE); clear hE
    obtain ⟨A21, c21, rfl, -, hat21⟩ := dplain_slice (n := m) hown HK.out
    have HB21 := Lib.hid hat21
    clear hown hat21 HA20
    have HSUB := Lib.hid (iDecSub A20 A21 n c20 m c21 l k w21 HL.out HK.out (by omega) (by omega) HA21.out HB21.out F3.out.2.1 F4.out.2.1 (TW.out.ext HE21.out) (by rw [← HS.out]; exact HFIT.out))
    unfold RetSubD at HSUB
    rw [← HS.out, ← HNB.out] at HSUB
    go_wp2_with (fail)
    go_at_call 36
    refine HSUB.out.mono ?_
    rintro e w22 ⟨v22, rfl, hown, hE⟩
    have HE22 := Lib.hid (HE21.out.trans' hE); have HW22 := Lib.hid (HW21.out.ext hE); have HOWN := Lib.hid hown; clear hE hown HSUB HNB
    clear HOWN
    go_wp2_with (fail)
    go_at_call 18
    refine (deciAwake _ (TW.out.ext HE22.out)).mono ?_
    rintro e w23 ⟨rfl, hE⟩
    have HE23 := Lib.hid (HE22.out.trans' hE); clear hE
    go_wp2
    go_ret
    exact ⟨rfl, HE23.out⟩
end Go.Proofs.YthnghknmgbimbaaGreatDoor
