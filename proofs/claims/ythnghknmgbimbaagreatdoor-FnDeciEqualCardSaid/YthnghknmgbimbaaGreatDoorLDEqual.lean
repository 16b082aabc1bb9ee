/-
  The law FnDeciEqual, for all inputs.
-/
import Derived.Test.YthnghknmgbimbaaGreatDoorLDLess
import Derived.Test.YthnghknmgbimbaaGreatDoorHD
namespace Go.Proofs.YthnghknmgbimbaaGreatDoor
open Go Go.RowKit

theorem few_b64 {l : List DP} (h : ∀ x ∈ l, DecB x.2.1 x.2.2) {r : List (ByteArray × Int)} (hp : r.Perm (l.map dval)) : ∀ v ∈ r, v.2.natAbs ≤ 1000000000001 * 1000000000000000000 := fun v hv => dval_bound h v (hp.mem_iff.1 hv)
theorem bound_fit' {z : Int} (h : z.natAbs ≤ 1000000000001 * 1000000000000000000) : FitT z := by unfold FitT; omega

set_option maxRecDepth 100000 in
set_option maxHeartbeats 4000000 in
theorem lawDEqual (A : Option Addr) (n c : Nat) (l : List DP) (B : Option Addr) (m d : Nat) (k : List DP) (w : World) (hl : l.length = n) (hn : n ≤ 9223372036854775807) (hA : DPlainAt w A l) (hk : k.length = m) (hm : m ≤ 9223372036854775807) (hB : DPlainAt w B k) (hT : Thr w) :
    Calls Tryz.prog 12 #[.slice A n c, .slice B m d] w (RetE (.bool true) w) := by
  have HL := Lib.hid hl; have HK := Lib.hid hk; have HA := Lib.hid hA; have HB := Lib.hid hB; have TW := Lib.hid hT
  clear hl hk hA hB hT
  go_enter Tryz.func12, Tryz.ntmps12
  go_wp2_with (fail)
  go_at_call 16
  refine (zFits3 A n c l _ HL.out hn HA.out).mono ?_
  rintro e w1 ⟨r, rfl, hf, hE⟩
  have HE1 := Lib.hid hE; clear hE hf
  cases r
  · go_wp2
    go_ret
    exact ⟨rfl, HE1.out⟩
  go_wp2_with (fail)
  go_at_call 16
  refine (zFits3 B m d k _ HK.out hm (HB.out.ext HE1.out)).mono ?_
  rintro e w2 ⟨r, rfl, hf, hE⟩
  have HE2 := Lib.hid (HE1.out.trans' hE); clear hE hf
  cases r
  · go_wp2
    go_ret
    exact ⟨rfl, HE2.out⟩
  go_wp2_with (fail)
  go_at_call 25
  refine (dFew A n c l _ HL.out hn (HA.out.ext HE2.out)).mono ?_
  obtain ⟨r3, hr3⟩ : ∃ b, b = fewB l := ⟨_, rfl⟩
  rw [← hr3]
  have HF3 := Lib.hid hr3; clear hr3
  rintro e w3 ⟨rfl, hE⟩
  have HE3 := Lib.hid (HE2.out.trans' hE); clear hE
  cases r3
  · go_wp2_with (go_at_call 18; refine (deciAwake _ (TW.out.ext HE3.out)).mono ?_; rintro e w9 ⟨rfl, hE⟩; have HE9 := Lib.hid (HE3.out.trans' hE); clear hE)
    go_ret
    exact ⟨rfl, HE9.out⟩
  have FM3 := Lib.hid (fewB_mem HF3.out.symm)
  have FD3 := Lib.hid (show ∀ x ∈ l, DecB x.2.1 x.2.2 from fun x hx => (FM3.out.2 x hx).2)
  go_wp2_with (fail)
  go_at_call 25
  refine (dFew B m d k _ HK.out hm (HB.out.ext HE3.out)).mono ?_
  obtain ⟨r4, hr4⟩ : ∃ b, b = fewB k := ⟨_, rfl⟩
  rw [← hr4]
  have HF4 := Lib.hid hr4; clear hr4
  rintro e w4 ⟨rfl, hE⟩
  have HE4 := Lib.hid (HE3.out.trans' hE); clear hE
  cases r4
  · go_wp2_with (go_at_call 18; refine (deciAwake _ (TW.out.ext HE4.out)).mono ?_; rintro e w9 ⟨rfl, hE⟩; have HE9 := Lib.hid (HE4.out.trans' hE); clear hE)
    go_ret
    exact ⟨rfl, HE9.out⟩
  have FM4 := Lib.hid (fewB_mem HF4.out.symm)
  have FD4 := Lib.hid (show ∀ x ∈ k, DecB x.2.1 x.2.2 from fun x hx => (FM4.out.2 x hx).2)
  have hn12 : n ≤ 12 := by have := FM3.out.1; rw [HL.out] at this; exact this
  have hm12 : m ≤ 12 := by have := FM4.out.1; rw [HK.out] at this; exact this
  clear HF3 HF4
  go_wp2_with (fail)
  go_at_call 23
  refine (lDeciOf A n c l _ HL.out (by omega) (HA.out.ext HE4.out) FD3.out).mono ?_
  rintro e w5 ⟨v5, rfl, hown, hE⟩
  have HE5 := Lib.hid (HE4.out.trans' hE); clear hE
  obtain ⟨A5, c5, rfl, -, hat5⟩ := de_slice (n := n) hown (by rw [List.length_map]; exact HL.out)
  have HSX := Lib.hid (sDeSorted A5 n c5 (l.map dval) w5 (by rw [List.length_map]; exact HL.out) (by omega) hat5)
  clear hown hat5
  go_wp2_with (fail)
  go_at_call 50
  refine HSX.out.mono ?_
  rintro e w6 ⟨x, ⟨v6, rfl, hown, hE⟩, hpx, hwx⟩
  have HE6 := Lib.hid (HE5.out.trans' hE)
  have HXN := Lib.hid (show x.length = n by rw [hpx.length_eq, List.length_map]; exact HL.out)
  obtain ⟨A6, c6, rfl, -, hat6⟩ := de_slice (n := n) hown HXN.out
  have HX6 := Lib.hid hat6; have HPX := Lib.hid hpx
  clear hown hat6 hE hpx hwx HSX
  go_wp2_with (fail)
  go_at_call 23
  refine (lDeciOf B m d k _ HK.out (by omega) (HB.out.ext HE6.out) FD4.out).mono ?_
  rintro e w7 ⟨v7, rfl, hown, hE⟩
  have HE7 := Lib.hid (HE6.out.trans' hE); have HX7 := Lib.hid (HX6.out.ext hE); clear hE HX6
  obtain ⟨A7, c7, rfl, -, hat7⟩ := de_slice (n := m) hown (by rw [List.length_map]; exact HK.out)
  have HSY := Lib.hid (sDeSorted A7 m c7 (k.map dval) w7 (by rw [List.length_map]; exact HK.out) (by omega) hat7)
  clear hown hat7
  go_wp2_with (fail)
  go_at_call 50
  refine HSY.out.mono ?_
  rintro e w8 ⟨y, ⟨v8, rfl, hown, hE⟩, hpy, hwy⟩
  have HE8 := Lib.hid (HE7.out.trans' hE); have HX8 := Lib.hid (HX7.out.ext hE)
  have HYN := Lib.hid (show y.length = m by rw [hpy.length_eq, List.length_map]; exact HK.out)
  obtain ⟨A8, c8, rfl, -, hat8⟩ := de_slice (n := m) hown HYN.out
  have HY8 := Lib.hid hat8; have HPY := Lib.hid hpy
  clear hown hat8 hE hpy hwy HSY HX7
  go_wp2_with (fail)
  go_at_call 51
  refine (sDeApart A6 n c6 x w8 HXN.out (by omega) HX8.out).mono ?_
  rintro e w9 ⟨b9, rfl, h9, hE⟩
  have HE9 := Lib.hid (HE8.out.trans' hE); have HX9 := Lib.hid (HX8.out.ext hE); have HY9 := Lib.hid (HY8.out.ext hE); have AX := Lib.hid h9; clear hE h9 HX8 HY8
  cases b9
  · go_wp2_with (go_at_call 18; refine (deciAwake _ (TW.out.ext HE9.out)).mono ?_; rintro e w10 ⟨rfl, hE⟩; have HE10 := Lib.hid (HE9.out.trans' hE); clear hE)
    go_ret
    exact ⟨rfl, HE10.out⟩
  go_wp2_with (fail)
  go_at_call 51
  refine (sDeApart A8 m c8 y w9 HYN.out (by omega) HY9.out).mono ?_
  rintro e w10 ⟨b10, rfl, h10, hE⟩
  have HE10 := Lib.hid (HE9.out.trans' hE); have HX10 := Lib.hid (HX9.out.ext hE); have HY10 := Lib.hid (HY9.out.ext hE); have AY := Lib.hid h10; clear hE h10 HX9 HY9
  cases b10
  · go_wp2_with (go_at_call 18; refine (deciAwake _ (TW.out.ext HE10.out)).mono ?_; rintro e w11 ⟨rfl, hE⟩; have HE11 := Lib.hid (HE10.out.trans' hE); clear hE)
    go_ret
    exact ⟨rfl, HE11.out⟩
  have AX2 := Lib.hid (show AscP x by first | exact AX.out trivial | exact AX.out rfl)
  have AY2 := Lib.hid (show AscP y by first | exact AY.out trivial | exact AY.out rfl)
  clear AX AY
  go_wp2_with (fail)
  go_at_call 20
  refine (lDeciOwn A n c l _ HL.out (by omega) (HA.out.ext HE10.out)).mono ?_
  rintro e w11 ⟨v11, rfl, hown, hE⟩
  have HE11 := Lib.hid (HE10.out.trans' hE); have HX11 := Lib.hid (HX10.out.ext hE); have HY11 := Lib.hid (HY10.out.ext hE); clear hE HX10 HY10
  obtain ⟨A11, c11, rfl, -, hat11⟩ := dplain_slice (n := n) hown HL.out
  have HSRT := Lib.hid (iDecSort A11 n c11 l w11 x HL.out hn12 hat11 FD3.out (TW.out.ext HE11.out) HPX.out AX2.out (fun v hv => bound_fit' (few_b64 FD3.out HPX.out v hv)))
  clear hown hat11
  go_wp2_with (fail)
  go_at_call 52
  refine HSRT.out.mono ?_
  rintro e w12 ⟨v12, rfl, hown, hE⟩
  have HE12 := Lib.hid (HE11.out.trans' hE); have HX12 := Lib.hid (HX11.out.ext hE); have HY12 := Lib.hid (HY11.out.ext hE); clear hE HX11 HY11 HSRT
  obtain ⟨A12, c12, rfl, -, hat12⟩ := dplain_slice (n := n) hown (by rw [List.length_map]; exact HXN.out)
  have HS12 := Lib.hid hat12
  clear hown hat12
  go_wp2_with (fail)
  go_at_call 18
  refine (deciAwake _ (TW.out.ext HE12.out)).mono ?_
  rintro e w13 ⟨rfl, hE⟩
  have HE13 := Lib.hid (HE12.out.trans' hE); have HX13 := Lib.hid (HX12.out.ext hE); have HY13 := Lib.hid (HY12.out.ext hE); have HS13 := Lib.hid (HS12.out.ext hE); clear hE HX12 HY12 HS12
  go_wp2_with (fail)
  go_at_call 20
  refine (lDeciOwn A n c l _ HL.out (by omega) (HA.out.ext HE13.out)).mono ?_
  rintro e w14 ⟨v14, rfl, hown, hE⟩
  have HE14 := Lib.hid (HE13.out.trans' hE); have HX14 := Lib.hid (HX13.out.ext hE); have HY14 := Lib.hid (HY13.out.ext hE); have HS14 := Lib.hid (HS13.out.ext hE); clear hE HX13 HY13 HS13
  obtain ⟨A14, c14, rfl, -, hat14⟩ := dplain_slice (n := n) hown HL.out
  have HA14 := Lib.hid hat14
  clear hown hat14
  go_wp2_with (fail)
  go_at_call 20
  refine (lDeciOwn B m d k _ HK.out (by omega) (HB.out.ext HE14.out)).mono ?_
  rintro e w15 ⟨v15, rfl, hown, hE⟩
  have HE15 := Lib.hid (HE14.out.trans' hE); have HX15 := Lib.hid (HX14.out.ext hE); have HY15 := Lib.hid (HY14.out.ext hE); have HS15 := Lib.hid (HS14.out.ext hE); have HA15 := Lib.hid (HA14.out.ext hE); clear hE HX14 HY14 HS14 HA14
  obtain ⟨A15, c15, rfl, -, hat15⟩ := dplain_slice (n := m) hown HK.out
  obtain ⟨q, hq⟩ : ∃ q, q = decide (x = y) := ⟨_, rfl⟩
  have HEQ := Lib.hid (iDecEqual A14 A15 n c14 m c15 l k w15 x y HL.out HK.out hn12 hm12 HA15.out hat15 FD3.out FD4.out (TW.out.ext HE15.out) HPX.out AX2.out HPY.out AY2.out)
  rw [← hq] at HEQ
  have HQ := Lib.hid hq
  clear hown hat15 hq
  go_wp2_with (fail)
  go_at_call 53
  refine HEQ.out.mono ?_
  rintro e w16 ⟨rfl, hE⟩
  have HE16 := Lib.hid (HE15.out.trans' hE); have HX16 := Lib.hid (HX15.out.ext hE); have HY16 := Lib.hid (HY15.out.ext hE); have HS16 := Lib.hid (HS15.out.ext hE); clear hE HX15 HY15 HS15 HA15 HEQ
  have HSM := Lib.hid (sDeSame A6 A8 n c6 m c8 x y w16 HXN.out HYN.out (by omega) (by omega) HX16.out HY16.out (fun v hv => Nat.lt_of_lt_of_le (bound_b64 (few_b64 FD3.out HPX.out v hv)) b64_24) (fun v hv => Nat.lt_of_lt_of_le (bound_b64 (few_b64 FD4.out HPY.out v hv)) b64_24))
  rw [← HQ.out] at HSM
  go_wp2_with (fail)
  go_at_call 54
  refine HSM.out.mono ?_
  rintro e w17 ⟨rfl, hE⟩
  have HE17 := Lib.hid (HE16.out.trans' hE); have HX17 := Lib.hid (HX16.out.ext hE); have HS17 := Lib.hid (HS16.out.ext hE); clear hE HX16 HS16 HSM HQ
  have HIS := Lib.hid (lIsAll A12 A6 n c12 c6 x w17 HXN.out (by omega) HS17.out HX17.out (fun v hv => bound_fit' (few_b64 FD3.out HPX.out v hv)))
  cases q
  all_goals
    go_wp2_with (fail)
    go_at_call 21
    refine HIS.out.mono ?_
    rintro e w18 ⟨rfl, hE⟩
    have HE18 := Lib.hid (HE17.out.trans' hE); clear hE
    go_wp2
    go_ret
    exact ⟨rfl, HE18.out⟩
end Go.Proofs.YthnghknmgbimbaaGreatDoor
