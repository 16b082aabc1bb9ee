/-
  The law FnDeciFrom, for all inputs.
-/
import Derived.Test.YtfocejhcdcnnhaaGreatDoorHL
import Derived.Test.YtfocejhcdcnnhaaGreatDoorHF
import Derived.Test.YtfocejhcdcnnhaaGreatDoorLDNew
namespace Go.Proofs.YtfocejhcdcnnhaaGreatDoor
open Go Go.RowKit

theorem whole_vnz (l : List (ByteArray × Int)) : vnz (l.map whole) = (vnz l).map whole := by
  unfold vnz
  rw [List.filter_map]
  congr 1
  refine List.filter_congr fun x _ => ?_
  show decide ((whole x).2 ≠ 0) = decide (x.2 ≠ 0)
  rw [decide_eq_decide]
  show x.2 * T18 ≠ 0 ↔ _
  unfold T18; omega
theorem whole_right {x : List (ByteArray × Int)} (h : isB x = true) : RightP (x.map whole) := by
  obtain ⟨h1, h2⟩ := isB_pos h
  refine ⟨List.pairwise_map.2 h2, fun y hy => ?_, fun y hy => ?_⟩
  · obtain ⟨z, hz, rfl⟩ := List.mem_map.1 hy
    have := (h1 z hz).2
    show 0 < z.2 * T18
    unfold T18; omega
  · obtain ⟨z, hz, rfl⟩ := List.mem_map.1 hy
    exact (h1 z hz).1
theorem right_whole {x : List (ByteArray × Int)} (h : RightP (x.map whole)) : isB x = true := by
  unfold isB; rw [decide_eq_true_iff]
  refine ⟨fun y hy => ⟨h.2.2 (whole y) (List.mem_map_of_mem hy), ?_⟩, List.pairwise_map.1 h.1⟩
  have h2 : 0 < y.2 * T18 := h.2.1 (whole y) (List.mem_map_of_mem hy)
  unfold T18 at h2; omega
theorem whole_bound {y : Int} (h0 : -9223372036854775808 ≤ y) (h1 : y ≤ 9223372036854775807) : (y * T18).natAbs < B64 ^ 2 := by unfold T18 B64; omega
theorem whole_names {x y : List (ByteArray × Int)} (hx : x.Perm y) {Q : ByteArray × Int → Prop} (h : ∀ v ∈ y, Q v) : ∀ v ∈ x, Q v := fun v hv => h v (hx.mem_iff.1 hv)

set_option maxRecDepth 100000 in
set_option maxHeartbeats 8000000 in
theorem lawDFrom (A : Option Addr) (n c : Nat) (l : List (ByteArray × Int)) (w : World) (hl : l.length = n) (hn : n ≤ 9223372036854775807) (hA : PlainAt w A l) (hz : ∀ x ∈ l, -9223372036854775808 ≤ x.2 ∧ x.2 ≤ 9223372036854775807) (hT : Thr w) :
    Calls Tryz.prog 6 #[.slice A n c] w (RetE (.bool true) w) := by
  obtain ⟨i0, hi, hz0, hz1, hz2⟩ := info_parts infoDe
  obtain ⟨j0, ji, jz0, jz1, jz2⟩ := info_parts infoPlan
  have HL := Lib.hid hl; have HA := Lib.hid hA; have TW := Lib.hid hT; have HZ := Lib.hid hz
  clear hl hA hT hz
  go_enter Tryz.func6, Tryz.ntmps6
  go_wp2_with (fail)
  go_at_call 27
  refine (zFits5 A n c l _ HL.out hn HA.out).mono ?_
  rintro e w1 ⟨r, rfl, hf, hE⟩
  have HE1 := Lib.hid hE; clear hE hf
  cases r
  · go_wp2
    go_ret
    exact ⟨rfl, HE1.out⟩
  by_cases h12 : 12 < n
  · have d1 : decide ((12 : Int) < (n : Int)) = true := by simp; omega
    go_wp2_with (go_at_call 13; refine (deciAwake _ (TW.out.ext HE1.out)).mono ?_; rintro e w99 ⟨rfl, hE⟩; have HE99 := Lib.hid (HE1.out.trans' hE); clear hE)
    go_ret
    exact ⟨rfl, HE99.out⟩
  have d1 : decide ((12 : Int) < (n : Int)) = false := by simp; omega
  go_wp2_with (fail)
  go_loopw [3, 18] (fun v i wr => ∃ (k : Nat) (cs : List (ByteArray × Int)), k ≤ n ∧ i = .int .i64 k ∧ cs.length = k ∧ cs = (l.map whole).take k ∧ (∀ x ∈ l.take k, x.1.size ≤ 130) ∧ DeOwn wr w.heap.size v cs ∧ Ext w wr) (fun _ i _ => n - (intOf i).toNat)
  case atStart => exact ⟨0, [], Nat.zero_le _, rfl, rfl, rfl, (fun _ h => by simp at h), DeOwn.nil _ _, HE1.out⟩
  case round =>
    obtain ⟨k, cs, hk, rfl, hcl, hcv, hsz, hown, hE⟩ := hrel
    have HC := Lib.hid hcl; have HV := Lib.hid hcv; have HO := Lib.hid hown; have HE := Lib.hid hE; have HSZ := Lib.hid hsz
    clear hcl hcv hown hE hsz
    by_cases hlt : k < n
    · have hkl : k < l.length := by rw [HL.out]; exact hlt
      obtain ⟨s, hs⟩ : ∃ s, s = l[k].1 := ⟨_, rfl⟩
      obtain ⟨y, hyy⟩ : ∃ y, y = l[k].2 := ⟨_, rfl⟩
      obtain ⟨z, hzz⟩ : ∃ z, z = y * T18 := ⟨_, rfl⟩
      have hyb := HZ.out _ (List.getElem_mem hkl)
      rw [← hyy] at hyb
      obtain ⟨g, o, hA, hc⟩ := HA.out (by intro e; have := congrArg List.length e; simp at this; rw [this] at hkl; simp at hkl)
      subst hA
      have hck := hc k (by simpa using hkl)
      have cs0 : wr.cell? ⟨g, o + k * 2, none⟩ = some (.string s) := HE.out.cell' (by rw [hck.1, hs]; simp [plain])
      have cs1 : wr.cell? ⟨g, o + k * 2 + 1, none⟩ = some (.int .i64 y) := HE.out.cell' (by rw [hck.2, hyy]; simp [plain])
      have HS := Lib.hid (show whole l[k] = (s, z) by rw [hs, hzz, hyy]; rfl)
      have HFST := Lib.hid (show l[k].1 = s from hs.symm)
      have HF := Lib.hid (fun W => sOfI y W hyb.1 hyb.2)
      rw [← hzz] at HF
      clear hs hzz hck hc hyb hyy
      by_cases h130 : 130 < s.size
      · have d2 : decide (130 < s.size) = true := by simpa using h130
        go_wp2_with (go_at_call 13; refine (deciAwake _ (TW.out.ext (HE.out.trans' (ext1 _ _)))).mono ?_; rintro e w99 ⟨rfl, hE⟩; have HE99 := Lib.hid ((HE.out.trans' (ext1 _ _)).trans' hE); clear hE)
        go_ret
        exact ⟨rfl, HE99.out⟩
      have d2 : decide (130 < s.size) = false := by simpa using h130
      have H130 := Lib.hid (show s.size ≤ 130 by omega)
      go_wp2
      go_region_law (first | (refine step_append_lies _ rfl (.tmp 27) (.tmp 34) 32 rfl w.heap.size 53 i0 _ 6 56 Tryz.underlying32 hi hz0 hz1 hz2 rfl (by decide) u3 cs.length (flat6 cs) rfl (owns_ext (HO.out.ext HE2.out) (ext1 _ _)) ⟨w2.heap.size, 0, none⟩ 1 1 (dcell6 (s, z)) rfl rfl (cells_new _ _ _) (dcell6_one _) (by decide) (by have := HC.out; unfold maxLen; omega) (by have := HC.out; omega) (by have := HE.out.size; have := HE2.out.size; simp; omega) _ rfl ?_; intro g2 cap w3 hown hgrow _ _; have R := Lib.hid (de_push ((HO.out.ext HE2.out).ext (ext1 _ _)) ((HE.out.trans' HE2.out).trans' (ext1 _ _)) hown hgrow); clear hown hgrow) | (go_simp; go_at_call 19; refine (HF.out _).mono ?_; rintro e w2 ⟨rfl, hE⟩; have HE2 := Lib.hid ((Ext.alloc' wr (planBox s y)).trans' (Ext.undrew hE)); have kb := (blk_new0 wr 51 [.string s, .int .i64 y]).ext (Ext.undrew hE); obtain ⟨c0, c1, hl1⟩ := dcells_2 kb; clear hE kb))
      all_goals go_wp2
      all_goals exact ⟨⟨k + 1, cs ++ [(s, z)], by omega, by go_num, by simp [HC.out], by rw [HV.out, List.take_succ_eq_append_getElem (by simpa using hkl), List.getElem_map, HS.out], (fun x hx => by
        rw [List.take_succ_eq_append_getElem hkl, List.mem_append, List.mem_singleton] at hx
        rcases hx with hx | rfl
        · exact HSZ.out x hx
        · rw [HFST.out]; exact H130.out), R.out.1, R.out.2⟩, by simp [intOf]; omega⟩
    obtain rfl : k = n := by omega
    have HALL := Lib.hid (show ∀ x ∈ l, x.1.size ≤ 130 from fun x hx => HSZ.out x (by rw [List.take_of_length_le (by rw [HL.out]; exact Nat.le_refl _)]; exact hx))
    have HV2 := Lib.hid (show cs = l.map whole by rw [HV.out, List.take_of_length_le (by simp [HL.out])])
    obtain ⟨A20, c20, rfl, -, hat20⟩ := de_slice (n := k) HO.out HC.out
    have HD20 := Lib.hid (show DeAt wr A20 (l.map whole) by rw [← HV2.out]; exact hat20)
    have HN12 := Lib.hid (show k ≤ 12 by omega)
    have hk12 : k ≤ 12 := HN12.out
    clear hat20 HO HV HSZ h12
    have HNEW := Lib.hid (show k ≠ 0 → ∃ g of, A = some ⟨g, of, none⟩ ∧ ∀ j u, (flat2 (l.map plain))[j]? = some u → wr.cell? ⟨g, of + j, none⟩ = some u from fun h0 => by
      obtain ⟨g, o, hA, hc⟩ := HA.out (by intro e; have := congrArg List.length e; simp [HL.out] at this; exact h0 this)
      exact ⟨g, o, hA, flat2_allF (Q := fun i u => wr.cell? ⟨g, o + i, none⟩ = some u) _ fun j hj => ⟨HE.out.cell' (hc j hj).1, HE.out.cell' (hc j hj).2⟩⟩)
    go_wp2_with (first | (at_builtin; refine wpList_append_rows (by rfl) _ _ 48 51 rfl wr.heap.size j0 _ 2 24 Tryz.underlying48 ji jz0 jz1 jz2 rfl (by decide) _ 0 [] rfl (World.ownsRow_nil _ _ _ _) A k c (flat2 (l.map plain)) rfl (by rw [flat2_length, List.length_map, HL.out]) HNEW.out (plain_oneF l) (by unfold maxLen; omega) (by omega) (Nat.le_refl _) ?_; intro v20 w20 hown hgrow; have HO20 := Lib.hid hown; have HX20 := Lib.hid (hgrow wr (Ext.refl _) (Nat.le_refl _)); clear hown hgrow) | fail)
    have HE20 := Lib.hid (HE.out.trans' HX20.out)
    have D20 := Lib.hid (HD20.out.ext HX20.out)
    obtain ⟨A21, c21, rfl, -⟩ := rows_cap HO20.out
    have P20 := Lib.hid (show PlainAt w20 A21 l from recAt_of_owns (ps := l.map plain) (n := 0 + k) (by simp [HL.out]) HO20.out)
    clear HD20 HX20 HNEW HO20
    have HNB := Lib.hid (show ∀ v ∈ vnz (l.map whole), v.2.natAbs < B64 ^ 2 from fun v hv => by
      obtain ⟨y, hy, rfl⟩ := List.mem_map.1 (vnz_mem hv).1
      exact whole_bound (HZ.out y hy).1 (HZ.out y hy).2)
    have HVS := Lib.hid (show ∀ v ∈ vnz (l.map whole), v.1.size ≤ 130 from fun v hv => by
      obtain ⟨y, hy, rfl⟩ := List.mem_map.1 (vnz_mem hv).1
      exact HALL.out y hy)
    have HVL := Lib.hid (show (vnz (l.map whole)).length ≤ 12 by
      have h2 : (vnz (l.map whole)).length ≤ (l.map whole).length := List.length_filter_le _ _
      rw [List.length_map] at h2
      have := HL.out; have := HN12.out; omega)
    rw [show 0 + k = k by omega]
    have HFR := Lib.hid (iDecFrom A21 k c21 l w20 HL.out HN12.out P20.out HZ.out (fun x hx => by have := HALL.out x hx; unfold maxLen; omega) (TW.out.ext HE20.out))
    clear P20
    go_wp2_with (fail)
    go_at_call 28
    refine HFR.out.mono ?_
    rintro e w22 ⟨x, hpx, hwx, hcase, hE⟩
    have HE22 := Lib.hid (HE20.out.trans' hE); have D22 := Lib.hid (D20.out.ext hE)
    have HPX := Lib.hid hpx; have HWX := Lib.hid hwx
    clear hE hpx hwx HFR D20
    have HPW := Lib.hid (show (x.map whole).Perm (vnz (l.map whole)) by rw [whole_vnz]; exact HPX.out.map _)
    have HWW := Lib.hid (show (x.map whole).Pairwise fun a b => le a.1 b.1 from List.pairwise_map.2 HWX.out)
    rcases hcase with ⟨hb, v22, rfl, hown22⟩ | ⟨hb, v22, rfl⟩
    · have HB := Lib.hid hb; clear hb
      obtain ⟨A22, c22, rfl, -, hat⟩ := dplain_slice (n := x.length) hown22 (by rw [List.length_map, List.length_map])
      have X22 := Lib.hid (hat)
      clear hown22 hat
      have HSM := Lib.hid (sSome A20 k c20 (l.map whole) w22 (by rw [List.length_map]; exact HL.out) (by have := HN12.out; omega) D22.out (fun v hv => by obtain ⟨y, hy, rfl⟩ := List.mem_map.1 hv; exact Nat.lt_of_lt_of_le (whole_bound (HZ.out y hy).1 (HZ.out y hy).2) b64_24))
      go_wp2_with (fail)
      go_at_call 25
      refine (HSM.out).mono ?_
      rintro e w23 ⟨v, rfl, hown, hE⟩
      have HE23 := Lib.hid (HE22.out.trans' hE); have X23 := Lib.hid (X22.out.ext hE); clear hE D22 X22 HE22
      obtain ⟨m, hm⟩ : ∃ m, m = (vnz (l.map whole)).length := ⟨_, rfl⟩
      obtain ⟨A23, c23, rfl, -, hat⟩ := de_slice (n := m) hown hm.symm
      have hm12 : m ≤ 12 := by rw [hm]; exact HVL.out
      have HSY := Lib.hid (sDeSorted A23 m c23 (vnz (l.map whole)) w23 hm.symm (by omega) hat)
      have HM := Lib.hid hm
      clear hown hat hm HSM
      go_wp2_with (fail)
      go_at_call 24
      refine (HSY.out).mono ?_
      rintro e w24 ⟨y, ⟨v, rfl, hown, hE⟩, hpy, hwy⟩
      have HE24 := Lib.hid (HE23.out.trans' hE); have X24 := Lib.hid (X23.out.ext hE); clear hE X23 HE23
      have hy12 : y.length ≤ 12 := by rw [hpy.length_eq]; exact HVL.out
      obtain ⟨A24, c24, rfl, hc, hat⟩ := de_slice (n := y.length) hown rfl
      have HR := Lib.hid (whole_right HB.out)
      have HYX := Lib.hid (show y = x.map whole from sorted_is (hpy.trans HPW.out.symm) hwy HR.out.1)
      have HNO := Lib.hid (show dErr [] y = none by rw [HYX.out]; exact right_dErr HR.out)
      have HERR := Lib.hid (sErr A24 y.length c24 y w24 rfl (by omega) hc hat (fun v hv => by have := HVS.out v (hpy.mem_iff.1 hv); omega) (fun v hv => Nat.lt_of_lt_of_le (HNB.out v (hpy.mem_iff.1 hv)) b64_24))
      have Y24 := Lib.hid (hat)
      rw [HNO.out] at HERR
      clear hown hat hc hpy hwy HSY
      go_wp2_with (fail)
      go_at_call 26
      refine (HERR.out).mono ?_
      rintro e w25 ⟨rfl, hE⟩
      have HE25 := Lib.hid (HE24.out.trans' hE); have X25 := Lib.hid (X24.out.ext hE); have Y25 := Lib.hid (Y24.out.ext hE); clear hE X24 Y24 HE24
      clear HERR
      have et : errText none = ⟨#[]⟩ := rfl
      rw [et]
      clear et
      go_wp2_with (fail)
      go_at_call 13
      refine (deciAwake _ (TW.out.ext HE25.out)).mono ?_
      rintro e w26 ⟨rfl, hE⟩
      have HE26 := Lib.hid (HE25.out.trans' hE); have X26 := Lib.hid (X25.out.ext hE); have Y26 := Lib.hid (Y25.out.ext hE); clear hE X25 Y25 HE25
      have HYL := Lib.hid (show y.length = x.length by rw [HYX.out, List.length_map])
      have HIS := Lib.hid (show Calls Tryz.prog 16 #[.slice A22 x.length c22, .bool true, .slice A24 y.length c24] w26 (RetE (.bool true) w26) by have h := lIsAll A22 A24 y.length c22 c24 y w26 rfl (by omega) (by rw [HYX.out]; exact X26.out) Y26.out (fun v hv => by rw [HYX.out] at hv; obtain ⟨u, hu, rfl⟩ := List.mem_map.1 hv; exact whole_fit ((isB_pos HB.out).1 u hu).2 (HZ.out u (vnz_mem (HPX.out.mem_iff.1 hu)).1).2); rw [HYL.out] at h ⊢; exact h)
      go_wp2_with (fail)
      go_at_call 16
      refine (HIS.out).mono ?_
      rintro e w27 ⟨rfl, hE⟩
      have HE27 := Lib.hid (HE26.out.trans' hE); have X27 := Lib.hid (X26.out.ext hE); have Y27 := Lib.hid (Y26.out.ext hE); clear hE X26 Y26 HE26
      go_wp2
      go_ret
      exact ⟨rfl, HE27.out⟩
    · have HB := Lib.hid hb; clear hb
      have HSM := Lib.hid (sSome A20 k c20 (l.map whole) w22 (by rw [List.length_map]; exact HL.out) (by have := HN12.out; omega) D22.out (fun v hv => by obtain ⟨y, hy, rfl⟩ := List.mem_map.1 hv; exact Nat.lt_of_lt_of_le (whole_bound (HZ.out y hy).1 (HZ.out y hy).2) b64_24))
      go_wp2_with (fail)
      go_at_call 25
      refine (HSM.out).mono ?_
      rintro e w23 ⟨v, rfl, hown, hE⟩
      have HE23 := Lib.hid (HE22.out.trans' hE); clear hE D22 HE22
      obtain ⟨m, hm⟩ : ∃ m, m = (vnz (l.map whole)).length := ⟨_, rfl⟩
      obtain ⟨A23, c23, rfl, -, hat⟩ := de_slice (n := m) hown hm.symm
      have hm12 : m ≤ 12 := by rw [hm]; exact HVL.out
      have HSY := Lib.hid (sDeSorted A23 m c23 (vnz (l.map whole)) w23 hm.symm (by omega) hat)
      have HM := Lib.hid hm
      clear hown hat hm HSM
      go_wp2_with (fail)
      go_at_call 24
      refine (HSY.out).mono ?_
      rintro e w24 ⟨y, ⟨v, rfl, hown, hE⟩, hpy, hwy⟩
      have HE24 := Lib.hid (HE23.out.trans' hE); clear hE HE23
      have hy12 : y.length ≤ 12 := by rw [hpy.length_eq]; exact HVL.out
      obtain ⟨A24, c24, rfl, hc, hat⟩ := de_slice (n := y.length) hown rfl
      have HNO := Lib.hid (show dErr [] y ≠ none from fun e => by
        have ha := dErr_asc e hwy
        have h1 : x.map whole = y := sorted_is (HPW.out.trans hpy.symm) HWW.out ha
        have h2 : RightP (x.map whole) := by rw [h1]; exact right_of ha e
        have h3 := right_whole h2
        have h4 := HB.out
        rw [h3] at h4; cases h4)
      obtain ⟨t, ht⟩ : ∃ t, dErr [] y = some t := by
        cases h : dErr [] y with
        | none => exact absurd h HNO.out
        | some t => exact ⟨t, rfl⟩
      have HT0 := Lib.hid (dErr_text y [] t ht)
      have HERR := Lib.hid (sErr A24 y.length c24 y w24 rfl (by omega) hc hat (fun v hv => by have := HVS.out v (hpy.mem_iff.1 hv); omega) (fun v hv => Nat.lt_of_lt_of_le (HNB.out v (hpy.mem_iff.1 hv)) b64_24))
      have Y24 := Lib.hid (hat)
      rw [ht, show errText (some t) = t from rfl] at HERR
      clear hown hat hc hpy hwy HSY ht
      have hne : (t.toList == (⟨#[]⟩ : ByteArray).toList) = false := by rw [key_beq]; simpa using HT0.out
      have hnil : (⟨#[]⟩ : ByteArray).toList = [] := by first | rfl | decide +kernel | simp [ByteArray.toList, ByteArray.toList.loop]
      have hne3 : (t.toList == []) = false := by rw [← hnil]; exact hne
      have hne2 : ¬ t.toList = [] := by simpa using hne3
      go_wp2_with (fail)
      go_at_call 26
      refine (HERR.out).mono ?_
      rintro e w25 ⟨rfl, hE⟩
      have HE25 := Lib.hid (HE24.out.trans' hE); have Y25 := Lib.hid (Y24.out.ext hE); clear hE Y24 HE24
      clear HERR
      go_wp2_with (fail)
      go_at_call 13
      refine (deciAwake _ (TW.out.ext HE25.out)).mono ?_
      rintro e w26 ⟨rfl, hE⟩
      have HE26 := Lib.hid (HE25.out.trans' hE); have Y26 := Lib.hid (Y25.out.ext hE); clear hE Y25 HE25
      go_wp2
      go_ret
      exact ⟨rfl, HE26.out⟩
end Go.Proofs.YtfocejhcdcnnhaaGreatDoor
