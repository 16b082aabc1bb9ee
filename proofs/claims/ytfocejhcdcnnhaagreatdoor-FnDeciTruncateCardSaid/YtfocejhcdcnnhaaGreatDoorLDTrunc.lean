/-
  The law FnDeciTruncate, for all inputs.
-/
import Derived.Test.YtfocejhcdcnnhaaGreatDoorHO
import Derived.Test.YtfocejhcdcnnhaaGreatDoorLDNew
namespace Go.Proofs.YtfocejhcdcnnhaaGreatDoor
open Go Go.RowKit

theorem dOneErr_text {x : ByteArray × Int} {t : ByteArray} (h : dOneErr x = some t) : t ≠ ⟨#[]⟩ := by
  unfold dOneErr at h
  repeat' split at h
  all_goals cases h
  all_goals decide
theorem tot_whole' (s : ByteArray) : ∀ (l : List (ByteArray × Int)), totalP s (l.map whole) = totalP s l * T18
  | [] => by show (0 : Int) = 0 * T18; rw [Int.zero_mul]
  | x :: l => by
    rw [List.map_cons, totalP_cons, totalP_cons, tot_whole' s l]
    show (if x.1 = s then x.2 * T18 else 0) + _ = _
    rw [Int.add_mul]
    split
    · rfl
    · rw [Int.zero_mul]
theorem whole_sums {U X x : List (ByteArray × Int)} (hX : SumsTo (U.map fun x => whole (tq x)) X) (hx : SumsTo (U.map tq) x) : X = x.map whole := by
  refine totals_unique hX.1 hX.2.1 (List.pairwise_map.2 hx.1) (fun y hy => ?_) fun s => ?_
  · obtain ⟨p, hp, rfl⟩ := List.mem_map.1 hy
    have h1 := hx.2.1 p hp
    show p.2 * T18 ≠ 0
    unfold T18; omega
  · rw [hX.2.2, tot_whole', hx.2.2, ← tot_whole', List.map_map]; rfl
theorem wholes_back (x : List (ByteArray × Int)) : (x.map whole).map dback = x.map wback := by
  rw [List.map_map]
  exact List.map_congr_left fun y _ => wback_whole y
theorem fit_whole {v : Int} (h : v.natAbs ≤ 12 * 4000000000001) : FitT (v * T18) := by unfold FitT T18; omega
theorem de_rec {s : ByteArray} {z : Int} {b : Bool} {x0 x1 x2 x3 : Nat} (h : dcell6 (s, z) = [.string s, .bool b, .int .u64 x0, .int .u64 x1, .int .u64 x2, .int .u64 x3]) : deCV s z = .agg #[.string s, .bool b, .int .u64 x0, .int .u64 x1, .int .u64 x2, .int .u64 x3] := by
  unfold dcell6 at h
  simp only [List.cons.injEq, and_true, true_and] at h
  obtain ⟨h1, h2, h3, h4, h5⟩ := h
  unfold deCV
  rw [h1, h2, h3, h4, h5]

set_option maxRecDepth 100000 in
set_option maxHeartbeats 8000000 in
theorem lawDTrunc (A : Option Addr) (n c : Nat) (l : List DP) (w : World) (hl : l.length = n) (hn : n ≤ 9223372036854775807) (hA : DPlainAt w A l) (hT : Thr w) :
    Calls Tryz.prog 8 #[.slice A n c] w (RetE (.bool true) w) := by
  have HL := Lib.hid hl; have HA := Lib.hid hA; have TW := Lib.hid hT
  clear hl hA hT
  go_enter Tryz.func8, Tryz.ntmps8
  go_wp2_with (fail)
  go_at_call 10
  refine (zFits3 A n c l _ HL.out hn (HA.out)).mono ?_
  rintro e w1 ⟨r, rfl, hf, hE⟩
  have HE1 := Lib.hid hE; clear hE
  clear hf
  cases r
  · go_wp2
    go_ret
    exact ⟨rfl, HE1.out⟩
  obtain ⟨r3, hr3⟩ : ∃ b, b = fewB l := ⟨_, rfl⟩
  have HFW := Lib.hid (dFew A n c l w1 HL.out hn (HA.out.ext HE1.out))
  rw [← hr3] at HFW
  have HF3 := Lib.hid hr3; clear hr3
  go_wp2_with (fail)
  go_at_call 22
  refine (HFW.out).mono ?_
  rintro e w2 ⟨rfl, hE⟩
  have HE2 := Lib.hid (HE1.out.trans' hE); clear hE HE1
  clear HFW
  cases r3
  · go_wp2_with (go_at_call 13; refine (deciAwake _ (TW.out.ext HE2.out)).mono ?_; rintro e w99 ⟨rfl, hE⟩; have HE99 := Lib.hid (HE2.out.trans' hE); clear hE)
    go_ret
    exact ⟨rfl, HE99.out⟩
  have F3 := Lib.hid (fewB_mem HF3.out.symm)
  clear HF3
  have hn12 : n ≤ 12 := by have := F3.out.1; rw [HL.out] at this; exact this
  have D3 := Lib.hid (show ∀ x ∈ l, DecB x.2.1 x.2.2 from fun x hx => (F3.out.2 x hx).2)
  obtain ⟨U, hU⟩ : ∃ U, U = l.map dval := ⟨_, rfl⟩
  have HU := Lib.hid hU; clear hU
  have HUL := Lib.hid (show U.length = n by rw [HU.out, List.length_map]; exact HL.out)
  have BU := Lib.hid (show ∀ x ∈ U, x.2.natAbs < B64 ^ 4 by rw [HU.out]; exact fun x hx => Nat.lt_of_lt_of_le (bound_b64 (dval_bound D3.out x hx)) b64_24)
  have US := Lib.hid (show ∀ x ∈ U, x.1.size ≤ 9223372036854775807 by rw [HU.out]; intro x hx; obtain ⟨y, hy, rfl⟩ := List.mem_map.1 hx; have h1 := (F3.out.2 y hy).1; have e1 : (dval y).1 = y.1 := rfl; rw [e1]; omega)
  go_wp2_with (fail)
  go_at_call 15
  refine (lDeciOwn A n c l _ HL.out (by omega) (HA.out.ext HE2.out)).mono ?_
  rintro e w3 ⟨v, rfl, hown, hE⟩
  have HE3 := Lib.hid (HE2.out.trans' hE); clear hE HE2
  obtain ⟨A3, c3, rfl, -, hat⟩ := dplain_slice (n := n) hown HL.out
  have HTR := Lib.hid (by have h := iDecTruncate A3 n c3 l w3 HL.out hn12 hat D3.out (fun x hx => by have := (F3.out.2 x hx).1; unfold maxLen; omega) (TW.out.ext HE3.out); rw [← HU.out] at h; exact h)
  clear hown hat
  have HOF := Lib.hid (fun (W : World) (e : Ext w W) => (show Calls Tryz.prog 18 #[.slice A n c] W (RetDe U W) by rw [HU.out]; exact lDeciOf A n c l W HL.out (by omega) (HA.out.ext e) D3.out))
  go_wp2_with (fail)
  go_at_call 35
  refine HTR.out.mono ?_
  rintro e w4 (⟨hg, v, u, x, y, rfl, hox, hsx, hoy, hsy, hE⟩ | ⟨hbad, rfl, hE⟩)
  · have HE4 := Lib.hid (HE3.out.trans' hE); clear hE HTR HE3
    have HG := Lib.hid hg; have SX := Lib.hid hsx; have SY := Lib.hid hsy
    have HTK := Lib.hid (show ∀ v ∈ U, TOk v.2 from fun v hv => by have h1 := (dOneErr_good (HG.out v hv)).2; rw [HU.out] at hv; obtain ⟨p, hp, rfl⟩ := List.mem_map.1 hv; exact tok_dec (D3.out p hp) h1)
    have HXL := Lib.hid (show x.length ≤ 12 by have h1 := sums_len hsx; rw [List.length_map, HUL.out] at h1; omega)
    have HYL := Lib.hid (show y.length ≤ 12 by have h1 := sums_len hsy; rw [List.length_map, HUL.out] at h1; omega)
    obtain ⟨m, hm⟩ : ∃ m, m = x.length := ⟨_, rfl⟩
    have HM := Lib.hid hm
    have hm12 : m ≤ 12 := by rw [hm]; exact HXL.out
    obtain ⟨p, hp⟩ : ∃ p, p = y.length := ⟨_, rfl⟩
    have HPP := Lib.hid hp
    have hp12 : p ≤ 12 := by rw [hp]; exact HYL.out
    obtain ⟨A4, c4, rfl, -⟩ := rows_cap hox
    obtain ⟨B4, d4, rfl, -, hat⟩ := dplain_slice (n := p) hoy (by rw [List.length_map]; exact hp.symm)
    have PX4 := Lib.hid (show PlainAt w4 A4 x from recAt_of_owns (ps := x.map plain) (n := x.length) (by simp) hox)
    have PY4 := Lib.hid hat
    rw [← hm]
    clear hox hoy hat hsx hsy hg hm hp
    go_wp2_with (fail)
    go_at_call 18
    refine (HOF.out _ HE4.out).mono ?_
    rintro e w5 ⟨v, rfl, hown, hE⟩
    have HE5 := Lib.hid (HE4.out.trans' hE); have PX5 := Lib.hid (PX4.out.ext hE); have PY5 := Lib.hid (PY4.out.ext hE); clear hE PX4 PY4 HE4
    obtain ⟨A5, c5, rfl, -, hat⟩ := de_slice (n := n) hown HUL.out
    have Z5 := Lib.hid (hat)
    clear hown hat
    go_wp2_with (fail)
    go_loopw [27] (fun i wr => ∃ j : Nat, j ≤ n ∧ i = .int .i64 j ∧ (∀ v ∈ U.take j, dOneErr v = none) ∧ Ext w5 wr) (fun i _ => n - (intOf i).toNat)
    case atStart => exact ⟨0, Nat.zero_le _, rfl, (fun v hv => by simp at hv), Ext.refl _⟩
    case round =>
      obtain ⟨j, hj, rfl, hq, hE⟩ := hrel
      have HQ := Lib.hid hq; have HEJ := Lib.hid hE; clear hq hE
      by_cases hlt : j < n
      · have hjl : j < U.length := by rw [HUL.out]; exact hlt
        obtain ⟨s, hs⟩ : ∃ s, s = U[j].1 := ⟨_, rfl⟩
        obtain ⟨z, hzz⟩ : ∃ z, z = U[j].2 := ⟨_, rfl⟩
        have hml := List.getElem_mem hjl
        obtain ⟨g, o, hAA, hc⟩ := Z5.out (by intro e; rw [e] at hjl; simp at hjl)
        subst hAA
        obtain ⟨b, x0, x1, x2, x3, hd6, hdz, cs0, cs1, cs2, cs3, cs4, cs5⟩ := de_cells (de_get (w := wr) (s := s) (z := z) hjl (fun i hi q u hu => HEJ.out.cell' (hc i hi q u hu)) (by rw [hs, hzz]))
        have HV := Lib.hid (show U[j] = (s, z) by rw [hs, hzz])
        have HO2 := Lib.hid (fun (W : World) => sOneErr s z W (by rw [hs]; exact US.out _ hml) (by rw [hzz]; exact BU.out _ hml))
        rw [show deCV s z = .agg #[.string s, .bool b, .int .u64 x0, .int .u64 x1, .int .u64 x2, .int .u64 x3] from de_rec hd6] at HO2
        obtain ⟨er, her⟩ : ∃ er, er = dOneErr (s, z) := ⟨_, rfl⟩
        rw [← her] at HO2
        have HER := Lib.hid her; have HMM := Lib.hid hml
        clear hs hzz hc hml her hd6 hdz
        cases er with
        | none =>
          have et : errText none = ⟨#[]⟩ := rfl
          rw [et] at HO2
          clear et
          go_wp2_with (go_at_call 36; refine (HO2.out _).mono ?_; rintro e w60 ⟨rfl, hE⟩; have HE60 := Lib.hid (HEJ.out.trans' ((ext1 _ _).trans' hE)); clear hE)
          go_roundw
          case rel =>
            refine ⟨j + 1, by omega, by go_num, fun v hv => ?_, HE60.out⟩
            rw [List.take_succ_eq_append_getElem hjl, List.mem_append, List.mem_singleton] at hv
            rcases hv with hv | rfl
            · exact HQ.out v hv
            · rw [HV.out]; exact HER.out.symm
          case measure => simp [intOf]; omega
        | some t =>
          exact absurd (HG.out _ HMM.out) (by rw [HV.out, ← HER.out]; simp)
      obtain rfl : j = n := by omega
      have HEL := Lib.hid (HE5.out.trans' HEJ.out)
      have PXL := Lib.hid (PX5.out.ext HEJ.out)
      have PYL := Lib.hid (PY5.out.ext HEJ.out)
      clear HEJ HQ
      go_wp2_with (fail)
      go_at_call 18
      refine (HOF.out _ HEL.out).mono ?_
      rintro e w71 ⟨v, rfl, hown, hE⟩
      have HE71 := Lib.hid (HEL.out.trans' hE); have PX71 := Lib.hid (PXL.out.ext hE); have PY71 := Lib.hid (PYL.out.ext hE); clear hE PXL PYL HEL
      obtain ⟨A71, c71, rfl, -, hat⟩ := de_slice (n := j) hown HUL.out
      have HW := Lib.hid (sDeWhole A71 j c71 U w71 HUL.out (by omega) hat HTK.out)
      clear hown hat
      go_wp2_with (fail)
      go_at_call 37
      refine (HW.out).mono ?_
      rintro e w72 ⟨X, Y, v, u, rfl, hox, hsx, hoy, hsy, hE⟩
      have HE72 := Lib.hid (HE71.out.trans' hE); have PX72 := Lib.hid (PX71.out.ext hE); have PY72 := Lib.hid (PY71.out.ext hE); clear hE PX71 PY71 HE71
      obtain rfl : Y = y := sums_unique hsy SY.out fun _ => rfl
      have HXX := Lib.hid (show X = x.map whole from whole_sums hsx SX.out)
      obtain ⟨A72, c72, rfl, -, hat⟩ := de_slice (n := m) hox (by rw [HXX.out, List.length_map]; exact HM.out.symm)
      obtain ⟨B72, d72, rfl, -, hat2⟩ := de_slice (n := p) hoy HPP.out.symm
      have QX72 := Lib.hid (hat)
      have QY72 := Lib.hid (hat2)
      clear hox hsx hoy hsy hat hat2 HW
      go_wp2_with (fail)
      go_at_call 13
      refine (deciAwake _ (TW.out.ext HE72.out)).mono ?_
      rintro e w73 ⟨rfl, hE⟩
      have HE73 := Lib.hid (HE72.out.trans' hE); have PX73 := Lib.hid (PX72.out.ext hE); have PY73 := Lib.hid (PY72.out.ext hE); have QX73 := Lib.hid (QX72.out.ext hE); have QY73 := Lib.hid (QY72.out.ext hE); clear hE PX72 PY72 QX72 QY72 HE72
      go_wp2_with (fail)
      go_at_call 38
      refine (lDeciWholes A4 m c4 x _ HM.out.symm (by omega) PX73.out).mono ?_
      rintro e w74 ⟨v, rfl, hown, hE⟩
      have HE74 := Lib.hid (HE73.out.trans' hE); have PX74 := Lib.hid (PX73.out.ext hE); have PY74 := Lib.hid (PY73.out.ext hE); have QX74 := Lib.hid (QX73.out.ext hE); have QY74 := Lib.hid (QY73.out.ext hE); clear hE PX73 PY73 QX73 QY73 HE73
      obtain ⟨A74, c74, rfl, -, hat⟩ := dplain_slice (n := m) hown (by rw [List.length_map]; exact HM.out.symm)
      have HIS := Lib.hid (lIsAll A74 A72 m c74 c72 X w74 (by rw [HXX.out, List.length_map]; exact HM.out.symm) (by omega) (by rw [HXX.out, wholes_back]; exact hat) QX74.out (fun v hv => by rw [HXX.out] at hv; obtain ⟨p1, hp1, rfl⟩ := List.mem_map.1 hv; exact fit_whole (sumsQ_bound SX.out (by rw [HUL.out]; omega) HTK.out p1 hp1)))
      clear hown hat
      go_wp2_with (fail)
      go_at_call 16
      refine (HIS.out).mono ?_
      rintro e w75 ⟨rfl, hE⟩
      have HE75 := Lib.hid (HE74.out.trans' hE); have PX75 := Lib.hid (PX74.out.ext hE); have PY75 := Lib.hid (PY74.out.ext hE); have QX75 := Lib.hid (QX74.out.ext hE); have QY75 := Lib.hid (QY74.out.ext hE); clear hE PX74 PY74 QX74 QY74 HE74
      clear HIS
      have HIS := Lib.hid (lIsAll B4 B72 p d4 d72 Y w75 HPP.out.symm (by omega) PY75.out QY75.out (fun v hv => by have h1 := sumsR_bound SY.out (by rw [HUL.out]; omega) HTK.out v hv; unfold FitT; omega))
      go_wp2_with (fail)
      go_at_call 16
      refine (HIS.out).mono ?_
      rintro e w76 ⟨rfl, hE⟩
      have HE76 := Lib.hid (HE75.out.trans' hE); have PX76 := Lib.hid (PX75.out.ext hE); have PY76 := Lib.hid (PY75.out.ext hE); have QX76 := Lib.hid (QX75.out.ext hE); have QY76 := Lib.hid (QY75.out.ext hE); clear hE PX75 PY75 QX75 QY75 HE75
      go_wp2
      go_ret
      exact ⟨rfl, HE76.out⟩
  · have HE4 := Lib.hid (HE3.out.trans' hE); clear hE HTR HE3
    have HBAD := Lib.hid hbad; clear hbad
    go_wp2_with (fail)
    go_at_call 18
    refine (HOF.out _ HE4.out).mono ?_
    rintro e w5 ⟨v, rfl, hown, hE⟩
    have HE5 := Lib.hid (HE4.out.trans' hE); clear hE HE4
    obtain ⟨A5, c5, rfl, -, hat⟩ := de_slice (n := n) hown HUL.out
    have Z5 := Lib.hid (hat)
    clear hown hat
    go_wp2_with (fail)
    go_loopw [27] (fun i wr => ∃ j : Nat, j ≤ n ∧ i = .int .i64 j ∧ (∀ v ∈ U.take j, dOneErr v = none) ∧ Ext w5 wr) (fun i _ => n - (intOf i).toNat)
    case atStart => exact ⟨0, Nat.zero_le _, rfl, (fun v hv => by simp at hv), Ext.refl _⟩
    case round =>
      obtain ⟨j, hj, rfl, hq, hE⟩ := hrel
      have HQ := Lib.hid hq; have HEJ := Lib.hid hE; clear hq hE
      by_cases hlt : j < n
      · have hjl : j < U.length := by rw [HUL.out]; exact hlt
        obtain ⟨s, hs⟩ : ∃ s, s = U[j].1 := ⟨_, rfl⟩
        obtain ⟨z, hzz⟩ : ∃ z, z = U[j].2 := ⟨_, rfl⟩
        have hml := List.getElem_mem hjl
        obtain ⟨g, o, hAA, hc⟩ := Z5.out (by intro e; rw [e] at hjl; simp at hjl)
        subst hAA
        obtain ⟨b, x0, x1, x2, x3, hd6, hdz, cs0, cs1, cs2, cs3, cs4, cs5⟩ := de_cells (de_get (w := wr) (s := s) (z := z) hjl (fun i hi q u hu => HEJ.out.cell' (hc i hi q u hu)) (by rw [hs, hzz]))
        have HV := Lib.hid (show U[j] = (s, z) by rw [hs, hzz])
        have HO2 := Lib.hid (fun (W : World) => sOneErr s z W (by rw [hs]; exact US.out _ hml) (by rw [hzz]; exact BU.out _ hml))
        rw [show deCV s z = .agg #[.string s, .bool b, .int .u64 x0, .int .u64 x1, .int .u64 x2, .int .u64 x3] from de_rec hd6] at HO2
        obtain ⟨er, her⟩ : ∃ er, er = dOneErr (s, z) := ⟨_, rfl⟩
        rw [← her] at HO2
        have HER := Lib.hid her; have HMM := Lib.hid hml
        clear hs hzz hc hml her hd6 hdz
        cases er with
        | none =>
          have et : errText none = ⟨#[]⟩ := rfl
          rw [et] at HO2
          clear et
          go_wp2_with (go_at_call 36; refine (HO2.out _).mono ?_; rintro e w60 ⟨rfl, hE⟩; have HE60 := Lib.hid (HEJ.out.trans' ((ext1 _ _).trans' hE)); clear hE)
          go_roundw
          case rel =>
            refine ⟨j + 1, by omega, by go_num, fun v hv => ?_, HE60.out⟩
            rw [List.take_succ_eq_append_getElem hjl, List.mem_append, List.mem_singleton] at hv
            rcases hv with hv | rfl
            · exact HQ.out v hv
            · rw [HV.out]; exact HER.out.symm
          case measure => simp [intOf]; omega
        | some t =>
          have HT0 := Lib.hid (dOneErr_text HER.out.symm)
          have hne : (t.toList == (⟨#[]⟩ : ByteArray).toList) = false := by rw [key_beq]; simpa using HT0.out
          have hnil : (⟨#[]⟩ : ByteArray).toList = [] := by first | rfl | decide +kernel | simp [ByteArray.toList, ByteArray.toList.loop]
          have hne3 : (t.toList == []) = false := by rw [← hnil]; exact hne
          have hne2 : ¬ t.toList = [] := by simpa using hne3
          rw [show errText (some t) = t from rfl] at HO2
          go_wp2_with (first | (go_at_call 36; refine (HO2.out _).mono ?_; rintro e w60 ⟨rfl, hE⟩; have HE60 := Lib.hid (HE5.out.trans' (HEJ.out.trans' ((ext1 _ _).trans' hE))); clear hE) | (go_at_call 13; refine (deciAwake _ (TW.out.ext HE60.out)).mono ?_; rintro e w61 ⟨rfl, hE⟩; have HE61 := Lib.hid (HE60.out.trans' hE); clear hE))
          go_ret
          exact ⟨rfl, HE61.out⟩
      obtain rfl : j = n := by omega
      obtain ⟨v, hv, hne⟩ := HBAD.out
      exact absurd (HQ.out v (by rw [List.take_of_length_le (by rw [HUL.out]; exact Nat.le_refl _)]; exact hv)) hne
end Go.Proofs.YtfocejhcdcnnhaaGreatDoor
