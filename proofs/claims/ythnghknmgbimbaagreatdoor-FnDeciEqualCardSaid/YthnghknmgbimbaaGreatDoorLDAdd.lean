/-
  The law FnDeciAdd, for all inputs.
-/
import Derived.Test.YthnghknmgbimbaaGreatDoorGZ
import Derived.Test.YthnghknmgbimbaaGreatDoorGR
namespace Go.Proofs.YthnghknmgbimbaaGreatDoor
open Go Go.RowKit

theorem ddec_abs {x : DP} (h : DecB x.2.1 x.2.2) : (dval x).2.natAbs < B64 ^ 2 := by
  obtain ⟨_, _, hs⟩ := decB_abs h
  show (decV x.2.1 x.2.2).natAbs < _
  unfold decV; omega
/-- The cells of a list in memory, by the row. -/
theorem flat6_cells {w : World} {A : Option Addr} {l : List (ByteArray × Int)} (h : DeAt w A l) (hn : l ≠ []) : ∃ g of, A = some ⟨g, of, none⟩ ∧ ∀ j u, (flat6 l)[j]? = some u → w.cell? ⟨g, of + j, none⟩ = some u := by
  obtain ⟨g, o, hA, hc⟩ := h hn
  refine ⟨g, o, hA, fun j u hu => ?_⟩
  have hj : j < l.length * 6 := by rw [← flat6_length]; exact (List.getElem?_eq_some_iff.1 hu).1
  have e : j = j / 6 * 6 + j % 6 := by omega
  rw [e, flat6_get l (j / 6) (j % 6) (by omega) (by omega)] at hu
  have := hc (j / 6) (by omega) (j % 6) u hu
  rwa [show o + j / 6 * 6 + j % 6 = o + j by omega] at this
theorem add_bound {l m : List DP} (h1 : l.length ≤ 12) (h2 : m.length ≤ 12) (hl : ∀ x ∈ l, DecB x.2.1 x.2.2) (hm : ∀ x ∈ m, DecB x.2.1 x.2.2) (s : ByteArray) : (totalP s (l.map dval ++ m.map dval)).natAbs ≤ 24 * (1000000000001 * 1000000000000000000) := by
  have hb : ∀ x ∈ l.map dval ++ m.map dval, x.2.natAbs ≤ 1000000000001 * 1000000000000000000 := by
    have h : ∀ x : DP, DecB x.2.1 x.2.2 → (dval x).2.natAbs ≤ 1000000000001 * 1000000000000000000 := fun x h => by
      obtain ⟨⟨a, b⟩, c, d⟩ := h
      show (decV x.2.1 x.2.2).natAbs ≤ _
      unfold decV T18
      omega
    intro x hx
    rcases List.mem_append.1 hx with hx | hx
    · obtain ⟨y, hy, rfl⟩ := List.mem_map.1 hx; exact h y (hl y hy)
    · obtain ⟨y, hy, rfl⟩ := List.mem_map.1 hx; exact h y (hm y hy)
  refine Nat.le_trans (totalP_bound' s hb) (Nat.mul_le_mul_right _ ?_)
  rw [List.length_append, List.length_map, List.length_map]; omega
theorem sums_fit {l m : List DP} {r : List (ByteArray × Int)} (h1 : l.length ≤ 12) (h2 : m.length ≤ 12) (hl : ∀ x ∈ l, DecB x.2.1 x.2.2) (hm : ∀ x ∈ m, DecB x.2.1 x.2.2) (h : SumsTo (l.map dval ++ m.map dval) r) : ∀ x ∈ r, FitT x.2 := by
  intro x hx
  rw [← tot_get h.1 hx, h.2.2 x.1]
  have := add_bound h1 h2 hl hm x.1
  unfold FitT; omega
theorem sums_len {l r : List (ByteArray × Int)} (h : SumsTo l r) : r.length ≤ l.length := by
  have h1 : (r.map Prod.fst).length ≤ (l.map Prod.fst).length := List.Nodup.length_le_of_subset (strict_nodup (strict_keys h.1)) (fun s hs => by
    obtain ⟨y, hy, e⟩ := List.mem_map.1 hs
    have h0 : totalP s l ≠ 0 := by rw [← h.2.2 s, (tot_iff h.1 h.2.1 s)]; exact ⟨y, hy, e⟩
    by_cases hex : ∃ x ∈ l, x.1 = s
    · obtain ⟨x, hx, e'⟩ := hex; exact List.mem_map.2 ⟨x, hx, e'⟩
    · exact absurd (totalP_none fun x hx e => hex ⟨x, hx, e⟩) h0)
  simpa using h1

set_option maxRecDepth 100000 in
set_option maxHeartbeats 4000000 in
theorem lawDAdd (A B : Option Addr) (n c m d : Nat) (l k : List DP) (w : World) (hl : l.length = n) (hk : k.length = m) (hn : n ≤ 9223372036854775807) (hm : m ≤ 9223372036854775807) (hA : DPlainAt w A l) (hB : DPlainAt w B k) (hT : Thr w) :
    Calls Tryz.prog 3 #[.slice A n c, .slice B m d] w (RetE (.bool true) w) := by
  obtain ⟨i0, hi, hz0, hz1, hz2⟩ := info_parts infoDe
  have HL := Lib.hid hl; have HK := Lib.hid hk; have HA := Lib.hid hA; have HB := Lib.hid hB; have TW := Lib.hid hT
  clear hl hk hA hB hT
  go_enter Tryz.func3, Tryz.ntmps3
  go_wp2_with (fail)
  go_at_call 16
  refine (zFits3 A n c l _ HL.out hn HA.out).mono ?_
  rintro e w1 ⟨r, rfl, hf, hE⟩
  have HE1 := Lib.hid hE; clear hE hf
  cases r
  · go_wp2
    go_ret
    exact ⟨rfl, HE1.out⟩
  go_wp2_with (fail)
  go_at_call 16
  refine (zFits3 B m d k _ HK.out hm (HB.out.ext HE1.out)).mono ?_
  rintro e w2 ⟨r, rfl, hf, hE⟩
  have HE2 := Lib.hid (HE1.out.trans' hE); clear hE hf
  cases r
  · go_wp2
    go_ret
    exact ⟨rfl, HE2.out⟩
  go_wp2_with (fail)
  go_at_call 17
  refine (lDeciApart A n c l _ HL.out hn (HA.out.ext HE2.out)).mono ?_
  rintro e w3 ⟨r, rfl, hf, hE⟩
  have HE3 := Lib.hid (HE2.out.trans' hE); have HF3 := Lib.hid hf; clear hE hf
  cases r
  · go_wp2_with (go_at_call 18; refine (deciAwake _ (TW.out.ext HE3.out)).mono ?_; rintro e w4 ⟨rfl, hE⟩; have HE4 := Lib.hid (HE3.out.trans' hE); clear hE)
    go_ret
    exact ⟨rfl, HE4.out⟩
  go_wp2_with (fail)
  go_at_call 17
  refine (lDeciApart B m d k _ HK.out hm (HB.out.ext HE3.out)).mono ?_
  rintro e w4 ⟨r, rfl, hf, hE⟩
  have HE4 := Lib.hid (HE3.out.trans' hE); have HF4 := Lib.hid hf; clear hE hf
  cases r
  · go_wp2_with (go_at_call 18; refine (deciAwake _ (TW.out.ext HE4.out)).mono ?_; rintro e w5 ⟨rfl, hE⟩; have HE5 := Lib.hid (HE4.out.trans' hE); clear hE)
    go_ret
    exact ⟨rfl, HE5.out⟩
  have F3 := Lib.hid (HF3.out trivial); have F4 := Lib.hid (HF4.out rfl)
  have hn12 : n ≤ 12 := by have := F3.out.1; rw [HL.out] at this; exact this
  have hm12 : m ≤ 12 := by have := F4.out.1; rw [HK.out] at this; exact this
  obtain ⟨S, hS⟩ : ∃ S, S = dmrg (l.map dval) (k.map dval) := ⟨_, rfl⟩
  have HSUM := Lib.hid (show SumsTo (l.map dval ++ k.map dval) S by rw [hS]; exact dmrg_sums _ _ F3.out.2.2 F4.out.2.2)
  have HFIT := Lib.hid (sums_fit F3.out.1 F4.out.1 F3.out.2.1 F4.out.2.1 HSUM.out)
  have HS := Lib.hid hS
  have hS24 : S.length ≤ 24 := by have := sums_len HSUM.out; rw [List.length_append, List.length_map, List.length_map, HL.out, HK.out] at this; omega
  have HS24 := Lib.hid hS24
  clear HF3 HF4 hS hS24
  go_wp2_with (fail)
  go_at_call 20
  refine (lDeciOwn A n c l _ HL.out (by omega) (HA.out.ext HE4.out)).mono ?_
  rintro e w5 ⟨v5, rfl, hown, hE⟩
  have HE5 := Lib.hid (HE4.out.trans' hE); clear hE
  obtain ⟨A5, c5, rfl, -, hat5⟩ := dplain_slice (n := n) hown HL.out
  have HA5 := Lib.hid hat5
  clear hown hat5
  go_wp2_with (fail)
  go_at_call 20
  refine (lDeciOwn B m d k _ HK.out (by omega) (HB.out.ext HE5.out)).mono ?_
  rintro e w6 ⟨v6, rfl, hown, hE⟩
  have HE6 := Lib.hid (HE5.out.trans' hE); have HA6 := Lib.hid (HA5.out.ext hE); clear hE
  obtain ⟨A6, c6, rfl, -, hat6⟩ := dplain_slice (n := m) hown HK.out
  have HB6 := Lib.hid hat6
  clear hown hat6 HA5
  go_wp2_with (fail)
  go_at_call 19
  refine (iDecAdd A5 A6 n c5 m c6 l k _ HL.out HK.out (by omega) (by omega) HA6.out HB6.out F3.out.2.1 F4.out.2.1 (TW.out.ext HE6.out) (by rw [← HS.out]; exact HFIT.out)).mono ?_
  rw [← HS.out]
  rintro e w7 ⟨v7, rfl, hown, hE⟩
  have HE7 := Lib.hid (HE6.out.trans' hE); clear hE
  obtain ⟨A7, c7, rfl, -, hat7⟩ := dplain_slice (n := S.length) hown (by rw [List.length_map])
  have HA7 := Lib.hid hat7
  clear hown hat7
  go_wp2_with (fail)
  go_at_call 18
  refine (deciAwake _ (TW.out.ext HE7.out)).mono ?_
  rintro e w8 ⟨rfl, hE⟩
  have HE8 := Lib.hid (HE7.out.trans' hE); have HA8 := Lib.hid (HA7.out.ext hE); clear hE HA7
  go_wp2_with (fail)
  go_at_call 23
  refine (lDeciOf A n c l _ HL.out (by omega) (HA.out.ext HE8.out) F3.out.2.1).mono ?_
  rintro e w9 ⟨v9, rfl, hown9, hE⟩
  have HE9 := Lib.hid (HE8.out.trans' hE); have E89 := Lib.hid hE; clear hE
  have HO9 := Lib.hid hown9; clear hown9
  go_wp2_with (fail)
  go_at_call 23
  refine (lDeciOf B m d k _ HK.out (by omega) (HB.out.ext HE9.out) F4.out.2.1).mono ?_
  rintro e w10 ⟨v10, rfl, hown, hE⟩
  have HE10 := Lib.hid (HE9.out.trans' hE); have HO10 := Lib.hid (HO9.out.ext hE); have SZ := Lib.hid (Nat.le_trans E89.out.size hE.size); have E810 := Lib.hid (E89.out.trans' hE); clear hE HO9
  obtain ⟨B10, c10, rfl, -, hat10⟩ := de_slice (n := m) hown (by rw [List.length_map]; exact HK.out)
  have HB10 := Lib.hid hat10
  clear hown hat10
  have HLD := Lib.hid (show (l.map dval).length = n by rw [List.length_map]; exact HL.out)
  have HKD := Lib.hid (show (k.map dval).length = m by rw [List.length_map]; exact HK.out)
  have HNEW := Lib.hid (show m ≠ 0 → ∃ g of, B10 = some ⟨g, of, none⟩ ∧ ∀ j u, (flat6 (k.map dval))[j]? = some u → w10.cell? ⟨g, of + j, none⟩ = some u from fun h0 => flat6_cells HB10.out (by intro e; rw [e] at HKD; exact h0 HKD.out.symm))
  go_wp2_with (first | (at_builtin; refine wpList_append_rows (by rfl) (.tmp 37) (.tmp 39) 29 46 rfl w8.heap.size i0 _ 6 56 Tryz.underlying29 hi hz0 hz1 hz2 rfl (by decide) v9 n (flat6 (l.map dval)) rfl (by have := HO10.out; unfold DeOwn at this; rw [HLD.out] at this; exact this) B10 m c10 (flat6 (k.map dval)) rfl (by rw [flat6_length, HKD.out]) HNEW.out (six_one' _) (by unfold maxLen; omega) (by omega) SZ.out ?_; intro v11 w11 hown hgrow; have HO11 := Lib.hid hown; have HE11 := Lib.hid (hgrow w8 E810.out (Nat.le_refl _)); clear hown hgrow) | fail)
  have HO12 := Lib.hid (show DeOwn w11 w8.heap.size v11 (l.map dval ++ k.map dval) by unfold DeOwn; rw [List.length_append, HLD.out, HKD.out, flat6_append]; exact HO11.out)
  obtain ⟨A11, c11, rfl, -, hat11⟩ := de_slice (n := n + m) HO12.out (by rw [List.length_append, HLD.out, HKD.out])
  have HA11 := Lib.hid (HA8.out.ext HE11.out)
  have HALL := Lib.hid (sDeAll A11 (n + m) c11 (l.map dval ++ k.map dval) w11 (by rw [List.length_append, HLD.out, HKD.out]) (by omega) hat11 (fun x hx => by
    rcases List.mem_append.1 hx with hx | hx
    · obtain ⟨y, hy, rfl⟩ := List.mem_map.1 hx; exact ddec_abs (F3.out.2.1 y hy)
    · obtain ⟨y, hy, rfl⟩ := List.mem_map.1 hx; exact ddec_abs (F4.out.2.1 y hy)))
  have HX11 := Lib.hid (HE8.out.trans' HE11.out)
  clear hat11
  go_at_call 22
  refine HALL.out.mono ?_
  rintro e w12 ⟨r, ⟨v12, rfl, hown, hE⟩, hsum⟩
  obtain rfl : r = S := sums_unique hsum HSUM.out fun _ => rfl
  have HE12 := Lib.hid (HX11.out.trans' hE)
  obtain ⟨A12, c12, rfl, -, hat12⟩ := de_slice (n := r.length) hown rfl
  have HIS := Lib.hid (lIsAll A7 A12 r.length c7 c12 r w12 rfl (by have := HS24.out; omega) (HA11.out.ext hE) hat12 HFIT.out)
  clear hown hat12 hE hsum HALL
  go_wp2_with (fail)
  go_at_call 21
  refine HIS.out.mono ?_
  rintro e w13 ⟨rfl, hE⟩
  have HE13 := Lib.hid (HE12.out.trans' hE); clear hE
  go_wp2
  go_ret
  exact ⟨rfl, HE13.out⟩
/-- The same, the arguments one behind the other. -/
theorem lawDAdd' (A : Option Addr) (n c : Nat) (l : List DP) (B : Option Addr) (m d : Nat) (k : List DP) (w : World) (hl : l.length = n) (hn : n ≤ 9223372036854775807) (hA : DPlainAt w A l) (hk : k.length = m) (hm : m ≤ 9223372036854775807) (hB : DPlainAt w B k) (hT : Thr w) :
    Calls Tryz.prog 3 #[.slice A n c, .slice B m d] w (RetE (.bool true) w) := lawDAdd A B n c m d l k w hl hk hn hm hA hB hT
end Go.Proofs.YthnghknmgbimbaaGreatDoor
