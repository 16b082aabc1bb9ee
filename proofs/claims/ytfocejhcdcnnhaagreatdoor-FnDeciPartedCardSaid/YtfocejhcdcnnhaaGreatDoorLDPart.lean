/-
  The law FnDeciParted, for all inputs.
-/
import Derived.Test.YtfocejhcdcnnhaaGreatDoorHN
import Derived.Test.YtfocejhcdcnnhaaGreatDoorHL
import Derived.Test.YtfocejhcdcnnhaaGreatDoorLDNew
namespace Go.Proofs.YtfocejhcdcnnhaaGreatDoor
open Go Go.RowKit

theorem sortDP_back {L : List (ByteArray × Int)} (h : L.length < 50) (ha : AscP L) : SortDP (L.map dback) := Or.inr ⟨by rw [List.length_map]; exact h, by rw [dbacks_dval]; exact ha⟩

set_option maxRecDepth 100000 in
set_option maxHeartbeats 8000000 in
theorem lawDPart (A : Option Addr) (n c : Nat) (l : List DP) (w : World) (hl : l.length = n) (hn : n ≤ 9223372036854775807) (hA : DPlainAt w A l) (hT : Thr w) :
    Calls Tryz.prog 9 #[.slice A n c] w (RetE (.bool true) w) := by
  obtain ⟨j0, ji, jz0, jz1, jz2⟩ := info_parts infoPlan
  have HL := Lib.hid hl; have HA := Lib.hid hA; have TW := Lib.hid hT
  clear hl hA hT
  go_enter Tryz.func9, Tryz.ntmps9
  go_wp2_with (fail)
  go_at_call 10
  refine (zFits3 A n c l _ HL.out hn (HA.out)).mono ?_
  rintro e w1 ⟨r, rfl, hf, hE⟩
  have HE1 := Lib.hid hE; clear hE
  clear hf
  cases r
  · go_wp2
    go_ret
    exact ⟨rfl, HE1.out⟩
  go_wp2_with (fail)
  go_at_call 11
  refine (lDeciApartN A n c l _ HL.out hn (HA.out.ext HE1.out)).mono ?_
  rintro e w2 ⟨r, rfl, hf, hE⟩
  have HE2 := Lib.hid (HE1.out.trans' hE); clear hE HE1
  have HF3 := Lib.hid hf; clear hf
  cases r
  · go_wp2_with (go_at_call 13; refine (deciAwake _ (TW.out.ext HE2.out)).mono ?_; rintro e w99 ⟨rfl, hE⟩; have HE99 := Lib.hid (HE2.out.trans' hE); clear hE)
    go_ret
    exact ⟨rfl, HE99.out⟩
  have F3 := Lib.hid (show l.length ≤ 12 ∧ (∀ x ∈ l, x.1.size ≤ 130 ∧ DecN x.2.1 x.2.2) ∧ AscP (l.map dval) by first | exact HF3.out trivial | exact HF3.out rfl)
  clear HF3
  have hn12 : n ≤ 12 := by have := F3.out.1; rw [HL.out] at this; exact this
  have D3 := Lib.hid (show ∀ x ∈ l, DecB x.2.1 x.2.2 from fun x hx => (F3.out.2.1 x hx).2.decB)
  obtain ⟨U, hU⟩ : ∃ U, U = l.map dval := ⟨_, rfl⟩
  have HU := Lib.hid hU; clear hU
  have HUL := Lib.hid (show U.length = n by rw [HU.out, List.length_map]; exact HL.out)
  have BU := Lib.hid (show ∀ x ∈ U, x.2.natAbs ≤ MN by rw [HU.out]; exact dvalN_bound fun x hx => (F3.out.2.1 x hx).2)
  go_wp2_with (fail)
  go_at_call 18
  refine (lDeciOf A n c l _ HL.out (by omega) (HA.out.ext HE2.out) D3.out).mono ?_
  rintro e w3 ⟨v, rfl, hown, hE⟩
  have HE3 := Lib.hid (HE2.out.trans' hE); clear hE HE2
  obtain ⟨A3, c3, rfl, hc, hat⟩ := de_slice (n := n) hown (by rw [List.length_map]; exact HL.out)
  have HERR := Lib.hid (sErr A3 n c3 (l.map dval) w3 (by rw [List.length_map]; exact HL.out) (by omega) hc hat (fun x hx => by obtain ⟨y, hy, rfl⟩ := List.mem_map.1 hx; have h1 := (F3.out.2.1 y hy).1; have e1 : (dval y).1 = y.1 := rfl; rw [e1]; omega) (fun x hx => Nat.lt_of_lt_of_le (bound_b64 (dval_bound D3.out x hx)) b64_24))
  rw [← HU.out] at HERR
  clear hown hat hc
  obtain ⟨o, ho⟩ : ∃ o, o = dErr [] U := ⟨_, rfl⟩
  rw [← ho] at HERR
  have HO := Lib.hid ho; clear ho
  go_wp2_with (fail)
  go_at_call 26
  refine (HERR.out).mono ?_
  rintro e w4 ⟨rfl, hE⟩
  have HE4 := Lib.hid (HE3.out.trans' hE); clear hE HE3
  clear HERR
  cases o with
  | some t =>
    have HT0 := Lib.hid (dErr_text U [] t HO.out.symm)
    have hne : (t.toList == (⟨#[]⟩ : ByteArray).toList) = false := by rw [key_beq]; simpa using HT0.out
    have hnil : (⟨#[]⟩ : ByteArray).toList = [] := by first | rfl | decide +kernel | simp [ByteArray.toList, ByteArray.toList.loop]
    have hne3 : (t.toList == []) = false := by rw [← hnil]; exact hne
    have hne2 : ¬ t.toList = [] := by simpa using hne3
    rw [show errText (some t) = t from rfl]
    go_wp2_with (go_at_call 13; refine (deciAwake _ (TW.out.ext HE4.out)).mono ?_; rintro e w99 ⟨rfl, hE⟩; have HE99 := Lib.hid (HE4.out.trans' hE); clear hE)
    go_ret
    exact ⟨rfl, HE99.out⟩
  | none =>
  have RU := Lib.hid (show RightP U from right_of (by rw [HU.out]; exact F3.out.2.2) HO.out.symm)
  clear HO
  have et : errText none = ⟨#[]⟩ := rfl
  rw [et]
  clear et
  have TU := Lib.hid (right_tok RU.out BU.out)
  go_wp2_with (fail)
  go_at_call 15
  refine (lDeciOwn A n c l _ HL.out (by omega) (HA.out.ext HE4.out)).mono ?_
  rintro e w5 ⟨v, rfl, hown, hE⟩
  have HE5 := Lib.hid (HE4.out.trans' hE); clear hE HE4
  obtain ⟨A5, c5, rfl, -, hat⟩ := dplain_slice (n := n) hown HL.out
  have HTR := Lib.hid (by have h := iDecTruncate A5 n c5 l w5 HL.out hn12 hat D3.out (fun x hx => by have := (F3.out.2.1 x hx).1; unfold maxLen; omega) (TW.out.ext HE5.out); rw [← HU.out] at h; exact h)
  clear hown hat
  go_wp2_with (fail)
  go_at_call 35
  refine HTR.out.mono ?_
  rintro e w6 (⟨-, v, u, x, y, rfl, hox, hsx, hoy, hsy, hE⟩ | ⟨⟨x, hx, hne⟩, -, -⟩)
  rotate_left
  · exact absurd (right_oneErr (RU.out.2.2 x hx) (RU.out.2.1 x hx)) hne
  have HE6 := Lib.hid (HE5.out.trans' hE); clear hE HTR HE5
  have SX := Lib.hid hsx; have SY := Lib.hid hsy
  have HXL := Lib.hid (show x.length ≤ 12 by have h1 := sums_len hsx; rw [List.length_map, HUL.out] at h1; omega)
  have HYL := Lib.hid (show y.length ≤ 12 by have h1 := sums_len hsy; rw [List.length_map, HUL.out] at h1; omega)
  have BX := Lib.hid (wholes_small RU.out.1 BU.out TU.out hsx)
  have BY := Lib.hid (rests_small RU.out.1 TU.out hsy)
  have IX := Lib.hid (parts_isB RU.out TU.out hsx)
  have PS := Lib.hid (parts_sum RU.out hsx hsy)
  clear hsx hsy
  obtain ⟨m, hm⟩ : ∃ m, m = x.length := ⟨_, rfl⟩
  have HM := Lib.hid hm
  have hm12 : m ≤ 12 := by rw [hm]; exact HXL.out
  obtain ⟨A6, c6, rfl, -⟩ := rows_cap hox
  obtain ⟨B6, d6, rfl, -, hat⟩ := dplain_slice (n := y.length) hoy (by rw [List.length_map])
  have HPX := Lib.hid (show PlainAt w6 A6 x from recAt_of_owns (ps := x.map plain) (n := x.length) (by simp) hox)
  have Y6 := Lib.hid (hat)
  rw [← hm]
  clear hox hoy hat hm
  have HNEW := Lib.hid (show m ≠ 0 → ∃ g of, A6 = some ⟨g, of, none⟩ ∧ ∀ j u, (flat2 (x.map plain))[j]? = some u → w6.cell? ⟨g, of + j, none⟩ = some u from fun h0 => by
    obtain ⟨g, o, hA, hc⟩ := HPX.out (by intro e; have := congrArg List.length e; simp at this; rw [HM.out] at h0; exact h0 (by rw [this]; rfl))
    exact ⟨g, o, hA, flat2_allF (Q := fun i u => w6.cell? ⟨g, o + i, none⟩ = some u) _ fun j hj => hc j hj⟩)
  go_wp2_with (first | (at_builtin; refine wpList_append_rows (by rfl) _ _ 48 51 rfl w6.heap.size j0 _ 2 24 Tryz.underlying48 ji jz0 jz1 jz2 rfl (by decide) _ 0 [] rfl (World.ownsRow_nil _ _ _ _) A6 m c6 (flat2 (x.map plain)) rfl (by rw [flat2_length, List.length_map, HM.out]) HNEW.out (plain_oneF x) (by unfold maxLen; omega) (by omega) (Nat.le_refl _) ?_; intro v50 w50 hown hgrow; have HO50 := Lib.hid hown; have HX50 := Lib.hid (hgrow w6 (Ext.refl _) (Nat.le_refl _)); clear hown hgrow) | fail)
  have HE50 := Lib.hid (HE6.out.trans' HX50.out)
  have Y50 := Lib.hid (Y6.out.ext HX50.out)
  obtain ⟨A50, c50, rfl, -⟩ := rows_cap HO50.out
  have P50 := Lib.hid (show PlainAt w50 A50 x from recAt_of_owns (ps := x.map plain) (n := 0 + m) (by simp [HM.out]) HO50.out)
  clear HX50 HNEW HO50 HPX Y6 HE6
  rw [show 0 + m = m by omega]
  have HFR := Lib.hid (iDecFrom A50 m c50 x w50 HM.out.symm hm12 P50.out (fun v hv => by have := BX.out v hv; omega) (fun v hv => by have h1 := denomB_size ((isB_pos IX.out).1 v hv).1; unfold maxLen; omega) (TW.out.ext HE50.out))
  clear P50
  have VX := Lib.hid (vnz_self SX.out.2.1)
  go_wp2_with (fail)
  go_at_call 28
  refine HFR.out.mono ?_
  rintro e w51 ⟨x2, hp2, hw2, hcase, hE⟩
  have HE51 := Lib.hid (HE50.out.trans' hE); have Y51 := Lib.hid (Y50.out.ext hE); clear hE HFR HE50 Y50
  rw [VX.out] at hp2
  obtain rfl : x2 = x := sorted_is hp2 hw2 SX.out.1
  rcases hcase with ⟨-, v51, rfl, hown⟩ | ⟨hb, -⟩
  rotate_left
  · exact absurd (hb.symm.trans IX.out) (by simp)
  clear hp2 hw2
  obtain ⟨A51, c51, rfl, -, hat⟩ := dplain_slice (n := m) hown (by rw [List.length_map, List.length_map]; exact HM.out.symm)
  have X51 := Lib.hid (hat)
  clear hown hat
  go_wp2_with (fail)
  go_at_call 15
  refine (lDeciOwn B6 y.length d6 (y.map dback) _ (by rw [List.length_map]) (by have := HYL.out; omega) Y51.out).mono ?_
  rintro e w52 ⟨v, rfl, hown, hE⟩
  have HE52 := Lib.hid (HE51.out.trans' hE); have Y52 := Lib.hid (Y51.out.ext hE); have X52 := Lib.hid (X51.out.ext hE); clear hE Y51 X51 HE51
  obtain ⟨A52, c52, rfl, -, hat⟩ := dplain_slice (n := y.length) hown (by rw [List.length_map])
  have E1 := Lib.hid (show dmrg (((x2.map whole).map dback).map dval) ((y.map dback).map dval) = U by rw [dbacks_dval, dbacks_dval]; exact PS.out)
  have DX := Lib.hid (dbacks_decB (L := x2.map whole) fun v hv => by obtain ⟨p, hp, rfl⟩ := List.mem_map.1 hv; exact whole_bound2 (BX.out p hp))
  have DY := Lib.hid (dbacks_decB (L := y) fun v hv => by have h1 := BY.out v hv; unfold MN; omega)
  have DU := Lib.hid (dbacks_decB (L := U) fun v hv => by have := BU.out v hv; omega)
  have FU := Lib.hid (show ∀ v ∈ U, FitT v.2 from fun v hv => fit_4MN (by have := BU.out v hv; omega))
  have HAD := Lib.hid (by have h := iDecAdd A51 A52 m c51 y.length c52 ((x2.map whole).map dback) (y.map dback) w52 (by rw [List.length_map, List.length_map]; exact HM.out.symm) (by rw [List.length_map]) (by omega) (by have := HYL.out; omega) X52.out hat DX.out DY.out (TW.out.ext HE52.out) (by rw [E1.out]; exact FU.out); rw [E1.out] at h; exact h)
  clear hown hat
  go_wp2_with (fail)
  go_at_call 29
  refine (HAD.out).mono ?_
  rintro e w53 ⟨v, rfl, hown, hE⟩
  have HE53 := Lib.hid (HE52.out.trans' hE); have Y53 := Lib.hid (Y52.out.ext hE); clear hE Y52 X52 HE52
  obtain ⟨A53, c53, rfl, -, hat⟩ := dplain_slice (n := U.length) hown (by rw [List.length_map])
  have S53 := Lib.hid (hat)
  clear hown hat HAD
  obtain ⟨p, hp⟩ : ∃ p, p = y.length := ⟨_, rfl⟩
  have HPP := Lib.hid hp
  have hp12 : p ≤ 12 := by rw [hp]; exact HYL.out
  rw [← hp] at ⊢
  clear hp
  go_wp2_with (fail)
  go_loopw [47] (fun i wr => ∃ j : Nat, j ≤ p ∧ i = .int .i64 j ∧ Ext w53 wr) (fun i _ => p - (intOf i).toNat)
  case atStart => exact ⟨0, Nat.zero_le _, rfl, Ext.refl _⟩
  case round =>
    obtain ⟨j, hj, rfl, hE⟩ := hrel
    have HEJ := Lib.hid hE; clear hE
    by_cases hlt : j < p
    · have hjl : j < y.length := by rw [← HPP.out]; exact hlt
      obtain ⟨s, hs⟩ : ∃ s, s = y[j].1 := ⟨_, rfl⟩
      obtain ⟨t, ht⟩ : ∃ t, t = Int.tmod y[j].2 T18 := ⟨_, rfl⟩
      obtain ⟨g, o, hAA, hc⟩ := Y53.out (by intro e; have := congrArg List.length e; simp at this; rw [this] at hjl; simp at hjl)
      subst hAA
      have hck := hc j (by simpa using hjl)
      have hz0 := tdiv_small (BY.out _ (List.getElem_mem hjl))
      have cs0 : wr.cell? ⟨g, o + j * 3, none⟩ = some (.string s) := HEJ.out.cell' (by rw [hck.1, hs]; simp [dplain, dback])
      have cs1 : wr.cell? ⟨g, o + j * 3 + 1, none⟩ = some (.int .i64 0) := HEJ.out.cell' (by rw [hck.2.1]; simp [dplain, dback, hz0])
      have cs2 : wr.cell? ⟨g, o + j * 3 + 2, none⟩ = some (.int .i64 t) := HEJ.out.cell' (by rw [hck.2.2, ht]; simp [dplain, dback])
      clear hs ht hck hc hz0
      go_wp2
      go_roundw
      case rel => exact ⟨j + 1, by omega, by go_num, HEJ.out.trans' (ext1 _ _)⟩
      case measure => simp [intOf]; omega
    obtain rfl : j = p := by omega
    have HEL := Lib.hid (HE53.out.trans' HEJ.out)
    have SL := Lib.hid (S53.out.ext HEJ.out)
    go_wp2_with (fail)
    go_at_call 13
    refine (deciAwake _ (TW.out.ext HEL.out)).mono ?_
    rintro e w71 ⟨rfl, hE⟩
    have HE71 := Lib.hid (HEL.out.trans' hE); have S71 := Lib.hid (SL.out.ext hE); clear hE SL HEL
    go_wp2_with (fail)
    go_at_call 15
    refine (lDeciOwn A n c l _ HL.out (by omega) (HA.out.ext HE71.out)).mono ?_
    rintro e w72 ⟨v, rfl, hown, hE⟩
    have HE72 := Lib.hid (HE71.out.trans' hE); have S72 := Lib.hid (S71.out.ext hE); clear hE S71 HE71
    obtain ⟨A72, c72, rfl, -, hat⟩ := dplain_slice (n := n) hown HL.out
    have HX := Lib.hid (show Calls Tryz.prog 34 #[.slice A53 U.length c53, .slice A72 n c72] w72 (RetE (.bool true) w72) by have h := iDecEqual A53 A72 U.length c53 n c72 (U.map dback) l w72 U U (by rw [List.length_map]) HL.out (sortDP_back (by have := HUL.out; omega) RU.out.1) (Or.inl (by rw [HL.out]; exact hn12)) S72.out hat DU.out D3.out (TW.out.ext HE72.out) (by rw [dbacks_dval]) RU.out.1 (by rw [HU.out]) RU.out.1; rw [decide_eq_true rfl] at h; exact h)
    clear hown hat
    go_wp2_with (fail)
    go_at_call 34
    refine (HX.out).mono ?_
    rintro e w73 ⟨rfl, hE⟩
    have HE73 := Lib.hid (HE72.out.trans' hE); have S73 := Lib.hid (S72.out.ext hE); clear hE S72 HE72
    go_wp2
    go_ret
    exact ⟨rfl, HE73.out⟩
end Go.Proofs.YtfocejhcdcnnhaaGreatDoor
