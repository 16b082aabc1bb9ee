/-
  The law FnDeciNew, for all inputs.
-/
import Derived.Test.YtfocejhcdcnnhaaGreatDoorHE
import Derived.Test.YtfocejhcdcnnhaaGreatDoorHD
import Derived.Test.YtfocejhcdcnnhaaGreatDoorGZ
import Derived.Test.YtfocejhcdcnnhaaGreatDoorGR
import Derived.Test.YtfocejhcdcnnhaaGreatDoorGV
import Derived.Test.YtfocejhcdcnnhaaGreatDoorGW
namespace Go.Proofs.YtfocejhcdcnnhaaGreatDoor
open Go Go.RowKit


set_option maxRecDepth 100000 in
set_option maxHeartbeats 4000000 in
theorem lawDNew (A : Option Addr) (n c : Nat) (l : List DP) (w : World) (hl : l.length = n) (hn : n ≤ 9223372036854775807) (hA : DPlainAt w A l) (hT : Thr w) :
    Calls Tryz.prog 5 #[.slice A n c] w (RetE (.bool true) w) := by
  have HL := Lib.hid hl; have HA := Lib.hid hA; have TW := Lib.hid hT
  clear hl hA hT
  go_enter Tryz.func5, Tryz.ntmps5
  go_wp2_with (fail)
  go_at_call 10
  refine (zFits3 A n c l _ HL.out hn HA.out).mono ?_
  rintro e w1 ⟨r, rfl, hf, hE⟩
  have HE1 := Lib.hid hE; clear hE hf
  cases r
  · go_wp2
    go_ret
    exact ⟨rfl, HE1.out⟩
  go_wp2_with (fail)
  go_at_call 22
  refine (dFew A n c l _ HL.out hn (HA.out.ext HE1.out)).mono ?_
  obtain ⟨r3, hr3⟩ : ∃ b, b = fewB l := ⟨_, rfl⟩
  rw [← hr3]
  have HF3 := Lib.hid hr3; clear hr3
  rintro e w3 ⟨rfl, hE⟩
  have HE3 := Lib.hid (HE1.out.trans' hE); clear hE
  cases r3
  · go_wp2_with (go_at_call 13; refine (deciAwake _ (TW.out.ext HE3.out)).mono ?_; rintro e w9 ⟨rfl, hE⟩; have HE9 := Lib.hid (HE3.out.trans' hE); clear hE)
    go_ret
    exact ⟨rfl, HE9.out⟩
  have FM3 := Lib.hid (fewB_mem HF3.out.symm)
  have FD3 := Lib.hid (show ∀ x ∈ l, DecB x.2.1 x.2.2 from fun x hx => (FM3.out.2 x hx).2)
  have hn12 : n ≤ 12 := by have := FM3.out.1; rw [HL.out] at this; exact this
  clear HF3
  go_wp2_with (fail)
  go_at_call 15
  refine (lDeciOwn A n c l _ HL.out (by omega) (HA.out.ext HE3.out)).mono ?_
  rintro e w4 ⟨v4, rfl, hown, hE⟩
  have HE4 := Lib.hid (HE3.out.trans' hE); clear hE
  obtain ⟨A4, c4, rfl, -, hat4⟩ := dplain_slice (n := n) hown HL.out
  have HNW := Lib.hid (iDecNew A4 n c4 l w4 HL.out hn12 hat4 FD3.out (fun x hx => by have := (FM3.out.2 x hx).1; unfold maxLen; omega) (TW.out.ext HE4.out) (fun x hx => bound_fit' (dval_bound FD3.out x hx)))
  clear hown hat4
  go_wp2_with (fail)
  go_at_call 23
  refine HNW.out.mono ?_
  rintro e w5 ⟨x, hpx, hwx, hcase, hE⟩
  have HE5 := Lib.hid (HE4.out.trans' hE)
  have HPX := Lib.hid hpx; have HWX := Lib.hid hwx
  clear hE hpx hwx HNW
  have HVB := Lib.hid (show ∀ v ∈ vnz (l.map dval), v.2.natAbs ≤ 4000000000001 * 1000000000000000000 from fun v hv => dval_bound FD3.out v (vnz_mem hv).1)
  have HVL := Lib.hid (show (vnz (l.map dval)).length ≤ 12 by
    have h2 : (vnz (l.map dval)).length ≤ (l.map dval).length := List.length_filter_le _ _
    rw [List.length_map] at h2
    have := HL.out; omega)
  have HVS := Lib.hid (show ∀ v ∈ vnz (l.map dval), v.1.size ≤ 130 from fun v hv => by
    obtain ⟨y, hy, rfl⟩ := List.mem_map.1 (vnz_mem hv).1
    exact (FM3.out.2 y hy).1)
  have REST := Lib.hid (fun (W : World) (eW : Ext w W) => lDeciOf A n c l W HL.out (by omega) (HA.out.ext eW) FD3.out)
  rcases hcase with ⟨ho, v5, rfl, hown5⟩ | ⟨ho, v5, rfl⟩
  · obtain ⟨A5, c5, rfl, -, hat5⟩ := dplain_slice (n := x.length) hown5 (by rw [List.length_map])
    have HX5 := Lib.hid hat5; have HO := Lib.hid ho
    clear hown5 hat5 ho
    go_wp2_with (fail)
    go_at_call 18
    refine (REST.out _ HE5.out).mono ?_
    rintro e w6 ⟨v6, rfl, hown, hE⟩
    have HE6 := Lib.hid (HE5.out.trans' hE); have HX6 := Lib.hid (HX5.out.ext hE); clear hE
    obtain ⟨A6, c6, rfl, -, hat6⟩ := de_slice (n := n) hown (by rw [List.length_map]; exact HL.out)
    have HSM := Lib.hid (sSome A6 n c6 (l.map dval) w6 (by rw [List.length_map]; exact HL.out) (by omega) hat6 (fun v hv => Nat.lt_of_lt_of_le (bound_b64 (dval_bound FD3.out v hv)) b64_24))
    clear hown hat6
    go_wp2_with (fail)
    go_at_call 25
    refine HSM.out.mono ?_
    rintro e w7 ⟨v7, rfl, hown, hE⟩
    have HE7 := Lib.hid (HE6.out.trans' hE); have HX7 := Lib.hid (HX6.out.ext hE); clear hE
    obtain ⟨m, hm⟩ : ∃ m, m = (vnz (l.map dval)).length := ⟨_, rfl⟩
    obtain ⟨A7, c7, rfl, -, hat7⟩ := de_slice (n := m) hown hm.symm
    have hm12 : m ≤ 12 := by rw [hm]; exact HVL.out
    have HSY := Lib.hid (sDeSorted A7 m c7 (vnz (l.map dval)) w7 hm.symm (by omega) hat7)
    have HM := Lib.hid hm
    clear hown hat7 hm
    go_wp2_with (fail)
    go_at_call 24
    refine HSY.out.mono ?_
    rintro e w8 ⟨y, ⟨v8, rfl, hown, hE⟩, hpy2, hwy⟩
    have HE8 := Lib.hid (HE7.out.trans' hE); have HX8 := Lib.hid (HX7.out.ext hE)
    have hy12 : y.length ≤ 12 := by rw [hpy2.length_eq]; exact HVL.out
    obtain ⟨A8, c8, rfl, hc8, hat8⟩ := de_slice (n := y.length) hown rfl
    clear hown HSY HSM
    have HYX := Lib.hid (show y = x from sorted_is (hpy2.trans HPX.out.symm) hwy (dErr_asc HO.out HWX.out))
    obtain rfl := HYX.out
    have HERR := Lib.hid (sErr A8 y.length c8 y w8 rfl (by omega) hc8 hat8 (fun v hv => by have := HVS.out v (hpy2.mem_iff.1 hv); omega) (fun v hv => Nat.lt_of_lt_of_le (bound_b64 (HVB.out v (hpy2.mem_iff.1 hv))) b64_24))
    rw [HO.out] at HERR
    have HY8 := Lib.hid hat8
    clear hat8 hE hwy hpy2 hc8
    go_wp2_with (fail)
    go_at_call 26
    refine HERR.out.mono ?_
    rintro e w9 ⟨rfl, hE⟩
    have HE9 := Lib.hid (HE8.out.trans' hE); have HX9 := Lib.hid (HX8.out.ext hE); have HY9 := Lib.hid (HY8.out.ext hE); clear hE HERR
    have et : errText none = ⟨#[]⟩ := rfl
    rw [et]
    go_wp2_with (fail)
    go_at_call 13
    refine (deciAwake _ (TW.out.ext HE9.out)).mono ?_
    rintro e w10 ⟨rfl, hE⟩
    have HE10 := Lib.hid (HE9.out.trans' hE)
    have HIS := Lib.hid (lIsAll A5 A8 y.length c5 c8 y w10 rfl (by omega) (HX9.out.ext hE) (HY9.out.ext hE) (fun v hv => bound_fit' (HVB.out v (HPX.out.mem_iff.1 hv))))
    clear hE
    go_wp2_with (fail)
    go_at_call 16
    refine HIS.out.mono ?_
    rintro e w11 ⟨rfl, hE⟩
    have HE11 := Lib.hid (HE10.out.trans' hE); clear hE
    go_wp2
    go_ret
    exact ⟨rfl, HE11.out⟩
  · have HO := Lib.hid ho
    clear ho
    go_wp2_with (fail)
    go_at_call 18
    refine (REST.out _ HE5.out).mono ?_
    rintro e w6 ⟨v6, rfl, hown, hE⟩
    have HE6 := Lib.hid (HE5.out.trans' hE); clear hE
    obtain ⟨A6, c6, rfl, -, hat6⟩ := de_slice (n := n) hown (by rw [List.length_map]; exact HL.out)
    have HSM := Lib.hid (sSome A6 n c6 (l.map dval) w6 (by rw [List.length_map]; exact HL.out) (by omega) hat6 (fun v hv => Nat.lt_of_lt_of_le (bound_b64 (dval_bound FD3.out v hv)) b64_24))
    clear hown hat6
    go_wp2_with (fail)
    go_at_call 25
    refine HSM.out.mono ?_
    rintro e w7 ⟨v7, rfl, hown, hE⟩
    have HE7 := Lib.hid (HE6.out.trans' hE); clear hE
    obtain ⟨m, hm⟩ : ∃ m, m = (vnz (l.map dval)).length := ⟨_, rfl⟩
    obtain ⟨A7, c7, rfl, -, hat7⟩ := de_slice (n := m) hown hm.symm
    have hm12 : m ≤ 12 := by rw [hm]; exact HVL.out
    have HSY := Lib.hid (sDeSorted A7 m c7 (vnz (l.map dval)) w7 hm.symm (by omega) hat7)
    have HM := Lib.hid hm
    clear hown hat7 hm
    go_wp2_with (fail)
    go_at_call 24
    refine HSY.out.mono ?_
    rintro e w8 ⟨y, ⟨v8, rfl, hown, hE⟩, hpy2, hwy⟩
    have HE8 := Lib.hid (HE7.out.trans' hE);
    have hy12 : y.length ≤ 12 := by rw [hpy2.length_eq]; exact HVL.out
    obtain ⟨A8, c8, rfl, hc8, hat8⟩ := de_slice (n := y.length) hown rfl
    clear hown HSY HSM
    have HNO := Lib.hid (show dErr [] y ≠ none from fun e => HO.out (by rw [show x = y from sorted_is (HPX.out.trans hpy2.symm) HWX.out (dErr_asc e hwy)]; exact e))
    obtain ⟨t, ht⟩ : ∃ t, dErr [] y = some t := by
      cases h : dErr [] y with
      | none => exact absurd h HNO.out
      | some t => exact ⟨t, rfl⟩
    have HT0 := Lib.hid (dErr_text y [] t ht)
    have HERR := Lib.hid (sErr A8 y.length c8 y w8 rfl (by omega) hc8 hat8 (fun v hv => by have := HVS.out v (hpy2.mem_iff.1 hv); omega) (fun v hv => Nat.lt_of_lt_of_le (bound_b64 (HVB.out v (hpy2.mem_iff.1 hv))) b64_24))
    rw [ht, show errText (some t) = t from rfl] at HERR
    clear hat8 hE hwy hpy2 hc8 ht
    have hne : (t.toList == (⟨#[]⟩ : ByteArray).toList) = false := by rw [key_beq]; simpa using HT0.out
    have hnil : (⟨#[]⟩ : ByteArray).toList = [] := by first | rfl | decide +kernel | simp [ByteArray.toList, ByteArray.toList.loop]
    have hne3 : (t.toList == []) = false := by rw [← hnil]; exact hne
    have hne2 : ¬ t.toList = [] := by simpa using hne3
    go_wp2_with (fail)
    go_at_call 26
    refine HERR.out.mono ?_
    rintro e w9 ⟨rfl, hE⟩
    have HE9 := Lib.hid (HE8.out.trans' hE); clear hE HERR
    go_wp2_with (fail)
    go_at_call 13
    refine (deciAwake _ (TW.out.ext HE9.out)).mono ?_
    rintro e w10 ⟨rfl, hE⟩
    have HE10 := Lib.hid (HE9.out.trans' hE); clear hE
    go_wp2
    go_ret
    exact ⟨rfl, HE10.out⟩
end Go.Proofs.YtfocejhcdcnnhaaGreatDoor
