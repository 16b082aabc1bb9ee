/-
  The law FnDeciBoth, for all inputs.
-/
import Derived.Test.YthnghknmgbimbaaGreatDoorLDLess
import Derived.Test.YthnghknmgbimbaaGreatDoorHC
namespace Go.Proofs.YthnghknmgbimbaaGreatDoor
open Go Go.RowKit

theorem tot_asc_bound {k : List (ByteArray × Int)} (h : AscP k) {B : Nat} (hb : ∀ x ∈ k, x.2.natAbs ≤ B) (s : ByteArray) : (totalP s k).natAbs ≤ B := by
  by_cases hex : ∃ x ∈ k, x.1 = s
  · obtain ⟨x, hx, rfl⟩ := hex
    rw [tot_get h hx]; exact hb x hx
  · rw [totalP_none fun x hx e => hex ⟨x, hx, e⟩]; simp
theorem dcap_bound {l k : List DP} (hs : AscP (k.map dval)) (hl : ∀ x ∈ l, DecB x.2.1 x.2.2) (hk : ∀ x ∈ k, DecB x.2.1 x.2.2) : ∀ x ∈ dcap l k, x.2.natAbs ≤ 1000000000001 * 1000000000000000000 := by
  intro x hx
  obtain ⟨y, hy, rfl⟩ := List.mem_map.1 (vnz_mem hx).1
  dsimp only
  split
  · exact tot_asc_bound hs (dval_bound hk) _
  · exact dval_bound hl y hy
theorem dcap_len (l k : List DP) : (dcap l k).length ≤ l.length := by
  refine Nat.le_trans (List.length_filter_le _ _) ?_
  simp [dboth]
theorem bound_fit {z : Int} (h : z.natAbs ≤ 1000000000001 * 1000000000000000000) : FitT z := by unfold FitT; omega

set_option maxRecDepth 100000 in
set_option maxHeartbeats 4000000 in
theorem lawDBoth (A : Option Addr) (n c : Nat) (l : List DP) (B : Option Addr) (m d : Nat) (k : List DP) (w : World) (hl : l.length = n) (hn : n ≤ 9223372036854775807) (hA : DPlainAt w A l) (hk : k.length = m) (hm : m ≤ 9223372036854775807) (hB : DPlainAt w B k) (hT : Thr w) :
    Calls Tryz.prog 7 #[.slice A n c, .slice B m d] w (RetE (.bool true) w) := by
  have HL := Lib.hid hl; have HK := Lib.hid hk; have HA := Lib.hid hA; have HB := Lib.hid hB; have TW := Lib.hid hT
  clear hl hk hA hB hT
  go_enter Tryz.func7, Tryz.ntmps7
  go_wp2_with (fail)
  go_at_call 16
  refine (zFits3 A n c l _ HL.out hn HA.out).mono ?_
  rintro e w1 ⟨r, rfl, hf, hE⟩
  have HE1 := Lib.hid hE; clear hE hf
  cases r
  · go_wp2
    go_ret
    exact ⟨rfl, HE1.out⟩
  go_wp2_with (fail)
  go_at_call 16
  refine (zFits3 B m d k _ HK.out hm (HB.out.ext HE1.out)).mono ?_
  rintro e w2 ⟨r, rfl, hf, hE⟩
  have HE2 := Lib.hid (HE1.out.trans' hE); clear hE hf
  cases r
  · go_wp2
    go_ret
    exact ⟨rfl, HE2.out⟩
  go_wp2_with (fail)
  go_at_call 17
  refine (lDeciApart A n c l _ HL.out hn (HA.out.ext HE2.out)).mono ?_
  rintro e w3 ⟨r, rfl, hf, hE⟩
  have HE3 := Lib.hid (HE2.out.trans' hE); have HF3 := Lib.hid hf; clear hE hf
  cases r
  · go_wp2_with (go_at_call 18; refine (deciAwake _ (TW.out.ext HE3.out)).mono ?_; rintro e w4 ⟨rfl, hE⟩; have HE4 := Lib.hid (HE3.out.trans' hE); clear hE)
    go_ret
    exact ⟨rfl, HE4.out⟩
  go_wp2_with (fail)
  go_at_call 17
  refine (lDeciApart B m d k _ HK.out hm (HB.out.ext HE3.out)).mono ?_
  rintro e w4 ⟨r, rfl, hf, hE⟩
  have HE4 := Lib.hid (HE3.out.trans' hE); have HF4 := Lib.hid hf; clear hE hf
  cases r
  · go_wp2_with (go_at_call 18; refine (deciAwake _ (TW.out.ext HE4.out)).mono ?_; rintro e w5 ⟨rfl, hE⟩; have HE5 := Lib.hid (HE4.out.trans' hE); clear hE)
    go_ret
    exact ⟨rfl, HE5.out⟩
  have F3 := Lib.hid (HF3.out trivial); have F4 := Lib.hid (HF4.out rfl)
  have hn12 : n ≤ 12 := by have := F3.out.1; rw [HL.out] at this; exact this
  have hm12 : m ≤ 12 := by have := F4.out.1; rw [HK.out] at this; exact this
  obtain ⟨S, hS⟩ : ∃ S, S = dcap l k := ⟨_, rfl⟩
  have HFIT := Lib.hid (show ∀ x ∈ S, FitT x.2 by rw [hS]; exact fun x hx => bound_fit (dcap_bound F4.out.2.2 F3.out.2.1 F4.out.2.1 x hx))
  have HS := Lib.hid hS
  have hS12 : S.length ≤ 12 := by rw [hS]; exact Nat.le_trans (dcap_len l k) F3.out.1
  have HS12 := Lib.hid hS12
  clear HF3 HF4 hS hS12
  go_wp2_with (fail)
  go_at_call 20
  refine (lDeciOwn A n c l _ HL.out (by omega) (HA.out.ext HE4.out)).mono ?_
  rintro e w5 ⟨v5, rfl, hown, hE⟩
  have HE5 := Lib.hid (HE4.out.trans' hE); clear hE
  obtain ⟨A5, c5, rfl, -, hat5⟩ := dplain_slice (n := n) hown HL.out
  have HA5 := Lib.hid hat5
  clear hown hat5
  go_wp2_with (fail)
  go_at_call 20
  refine (lDeciOwn B m d k _ HK.out (by omega) (HB.out.ext HE5.out)).mono ?_
  rintro e w6 ⟨v6, rfl, hown, hE⟩
  have HE6 := Lib.hid (HE5.out.trans' hE); have HA6 := Lib.hid (HA5.out.ext hE); clear hE
  obtain ⟨A6, c6, rfl, -, hat6⟩ := dplain_slice (n := m) hown HK.out
  have HB6 := Lib.hid hat6
  clear hown hat6 HA5
  have HINT := Lib.hid (iDecIntersect A5 A6 n c5 m c6 l k w6 HL.out HK.out (by omega) (by omega) HA6.out HB6.out F3.out.2.1 F4.out.2.1 F4.out.2.2 (TW.out.ext HE6.out) (by rw [← HS.out]; exact HFIT.out) (by rw [← HS.out]; have := HS12.out; omega))
  rw [← HS.out] at HINT
  go_wp2_with (fail)
  go_at_call 37
  refine HINT.out.mono ?_
  rintro e w7 ⟨v7, rfl, hown, hE⟩
  have HE7 := Lib.hid (HE6.out.trans' hE); clear hE
  obtain ⟨A7, c7, rfl, -, hat7⟩ := dplain_slice (n := S.length) hown (by rw [List.length_map])
  have HA7 := Lib.hid hat7
  clear hown hat7 HINT
  go_wp2_with (fail)
  go_at_call 18
  refine (deciAwake _ (TW.out.ext HE7.out)).mono ?_
  rintro e w8 ⟨rfl, hE⟩
  have HE8 := Lib.hid (HE7.out.trans' hE); have HA8 := Lib.hid (HA7.out.ext hE); clear hE HA7
  go_wp2_with (fail)
  go_at_call 23
  refine (lDeciOf A n c l _ HL.out (by omega) (HA.out.ext HE8.out) F3.out.2.1).mono ?_
  rintro e w9 ⟨v9, rfl, hown, hE⟩
  have HE9 := Lib.hid (HE8.out.trans' hE); have HA9 := Lib.hid (HA8.out.ext hE); clear hE HA8
  obtain ⟨A9, c9, rfl, -, hat9⟩ := de_slice (n := n) hown (by rw [List.length_map]; exact HL.out)
  have HW9 := Lib.hid hat9
  clear hown hat9
  go_wp2_with (fail)
  go_at_call 23
  refine (lDeciOf B m d k _ HK.out (by omega) (HB.out.ext HE9.out) F4.out.2.1).mono ?_
  rintro e w10 ⟨v10, rfl, hown, hE⟩
  have HE10 := Lib.hid (HE9.out.trans' hE); have HA10 := Lib.hid (HA9.out.ext hE); have HW10 := Lib.hid (HW9.out.ext hE); clear hE HA9 HW9
  obtain ⟨B10, c10, rfl, -, hat10⟩ := de_slice (n := m) hown (by rw [List.length_map]; exact HK.out)
  have HBO := Lib.hid (sDeBoth A9 B10 n c9 m c10 (l.map dval) (k.map dval) w10 (by rw [List.length_map]; exact HL.out) (by rw [List.length_map]; exact HK.out) (by omega) (by omega) HW10.out hat10 F4.out.2.2 (fun x hx => bound_b64 (dval_bound F3.out.2.1 x hx)) (fun s => bound_b64 (tot_asc_bound F4.out.2.2 (dval_bound F4.out.2.1) s)))
  rw [show vnz (dboth (l.map dval) (k.map dval)) = S from HS.out.symm] at HBO
  clear hown hat10
  go_wp2_with (fail)
  go_at_call 38
  refine HBO.out.mono ?_
  rintro e w11 ⟨v11, rfl, hown, hE⟩
  have HE11 := Lib.hid (HE10.out.trans' hE)
  obtain ⟨A11, c11, rfl, -, hat11⟩ := de_slice (n := S.length) hown rfl
  have HIS := Lib.hid (lIsAll A7 A11 S.length c7 c11 S w11 rfl (by have := HS12.out; omega) (HA10.out.ext hE) hat11 HFIT.out)
  clear hown hat11 hE HBO
  go_wp2_with (fail)
  go_at_call 21
  refine HIS.out.mono ?_
  rintro e w12 ⟨rfl, hE⟩
  have HE12 := Lib.hid (HE11.out.trans' hE); clear hE
  go_wp2
  go_ret
  exact ⟨rfl, HE12.out⟩
end Go.Proofs.YthnghknmgbimbaaGreatDoor
