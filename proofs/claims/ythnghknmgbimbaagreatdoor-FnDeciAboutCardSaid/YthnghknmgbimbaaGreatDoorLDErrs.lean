/-
  The walk of the law FnDeciErrors: it returns true.
-/
import Derived.Test.YthnghknmgbimbaaGreatDoorGW
import Derived.Test.YthnghknmgbimbaaGreatDoorGV
import Derived.Test.YthnghknmgbimbaaGreatDoorGQ
import Derived.Test.YthnghknmgbimbaaGreatDoorGR
import Derived.BigQuiet
import Derived.Deep.DeepCutAuto
namespace Go.Proofs.YthnghknmgbimbaaGreatDoor
open Go Go.RowKit

theorem dval_abs {x : DP} (h : DecB x.2.1 x.2.2) : (dval x).2.natAbs < B64 ^ 4 := by
  obtain ⟨_, _, hs⟩ := decB_abs h
  have h24 := b64_24
  show (decV x.2.1 x.2.2).natAbs < _
  unfold decV; omega
theorem dvals_abs {l : List DP} (h : ∀ x ∈ l, DecB x.2.1 x.2.2) : ∀ x ∈ l.map dval, x.2.natAbs < B64 ^ 4 := fun x hx => by
  obtain ⟨y, hy, rfl⟩ := List.mem_map.1 hx
  exact dval_abs (h y hy)
theorem dvals_size {l : List DP} {m : Nat} (h : ∀ x ∈ l, x.1.size ≤ m) : ∀ x ∈ l.map dval, x.1.size ≤ m := fun x hx => by
  obtain ⟨y, hy, rfl⟩ := List.mem_map.1 hx
  exact h y hy

set_option maxRecDepth 100000 in
set_option maxHeartbeats 4000000 in
theorem lawDErrs (A : Option Addr) (n c : Nat) (l : List DP) (w : World) (hl : l.length = n) (hn : n ≤ 9223372036854775807) (h : DPlainAt w A l) (hT : Thr w) :
    Calls Tryz.prog 8 #[.slice A n c] w (RetE (.bool true) w) := by
  have HL := Lib.hid hl; have HP := Lib.hid h; have TW := Lib.hid hT
  clear hl h hT
  go_enter Tryz.func8, Tryz.ntmps8
  go_wp2_with (fail)
  go_at_call 16
  refine (zFits3 A n c l _ HL.out hn HP.out).mono ?_
  rintro e w1 ⟨r, rfl, hf, hE⟩
  have HE1 := Lib.hid hE; clear hE
  cases r
  · go_wp2
    go_ret
    exact ⟨rfl, HE1.out⟩
  clear hf
  go_wp2_with (fail)
  go_at_call 25
  refine (dFew A n c l _ HL.out hn (HP.out.ext HE1.out)).mono ?_
  obtain ⟨b2, hb2⟩ : ∃ b, b = fewB l := ⟨_, rfl⟩
  rw [← hb2]
  have HB2 := Lib.hid hb2; clear hb2
  rintro e w2 ⟨rfl, hE⟩
  have HE2 := Lib.hid (HE1.out.trans' hE); clear hE
  cases b2
  · go_wp2_with (go_at_call 18; refine (deciAwake _ (TW.out.ext HE2.out)).mono ?_; rintro e w3 ⟨rfl, hE⟩; have HE3 := Lib.hid hE; clear hE)
    go_ret
    exact ⟨rfl, HE2.out.trans' HE3.out⟩
  have HF := Lib.hid (fewB_mem HB2.out.symm)
  have hn12 : n ≤ 12 := by have := HF.out.1; rw [HL.out] at this; exact this
  have HD := Lib.hid (show ∀ x ∈ l, DecB x.2.1 x.2.2 from fun x hx => (HF.out.2 x hx).2)
  have HZ := Lib.hid (show ∀ x ∈ l, x.1.size ≤ 130 from fun x hx => (HF.out.2 x hx).1)
  clear HB2 HF
  go_wp2_with (fail)
  go_at_call 23
  refine (lDeciOf A n c l _ HL.out (by omega) (HP.out.ext HE2.out) HD.out).mono ?_
  rintro e w3 ⟨v3, rfl, hown, hE⟩
  have HE3 := Lib.hid (HE2.out.trans' hE); clear hE
  obtain ⟨A3, c3, rfl, hcp, hat⟩ := de_slice (n := n) hown (by simp [HL.out])
  have HA3 := Lib.hid hat
  clear hown hat hcp
  go_wp2_with (fail)
  go_loopw [15] (fun i wr => ∃ k : Nat, k ≤ n ∧ i = .int .i64 k ∧ Ext w3 wr) (fun i _ => n - (intOf i).toNat)
  case atStart => exact ⟨0, Nat.zero_le _, rfl, Ext.refl _⟩
  case round =>
    obtain ⟨k, hk, rfl, hE⟩ := hrel
    have HE := Lib.hid (HE3.out.trans' hE); have HK3 := Lib.hid hE
    clear hE
    by_cases hlt : k < n
    · have hkl : k < l.length := by rw [HL.out]; exact hlt
      obtain ⟨s, hs⟩ : ∃ s, s = l[k].1 := ⟨_, rfl⟩
      obtain ⟨x, hxx⟩ : ∃ x, x = l[k].2.1 := ⟨_, rfl⟩
      obtain ⟨y, hyy⟩ : ∃ y, y = l[k].2.2 := ⟨_, rfl⟩
      obtain ⟨z, hzz⟩ : ∃ z, z = decV x y := ⟨_, rfl⟩
      have hd : DecB x y := by rw [hxx, hyy]; exact HD.out _ (List.getElem_mem hkl)
      have hsz : s.size ≤ 9223372036854775807 := by have := HZ.out _ (List.getElem_mem hkl); rw [hs]; omega
      have hza : z.natAbs < B64 ^ 4 := by rw [hzz]; exact dval_abs (x := (s, x, y)) hd
      have hX : (l.map dval)[k]'(by simpa using hkl) = (s, z) := by rw [List.getElem_map, hs, hzz, hxx, hyy]; rfl
      obtain ⟨g, o, hA, hc⟩ := HP.out (by intro e; have := congrArg List.length e; simp at this; rw [this] at hkl; simp at hkl)
      subst hA
      have hck := hc k (by simpa using hkl)
      have cs0 : w.cell? ⟨g, o + k * 3, none⟩ = some (.string s) := by rw [hck.1, hs]; simp [dplain]
      have cs1 : w.cell? ⟨g, o + k * 3 + 1, none⟩ = some (.int .i64 x) := by rw [hck.2.1, hxx]; simp [dplain]
      have cs2 : w.cell? ⟨g, o + k * 3 + 2, none⟩ = some (.int .i64 y) := by rw [hck.2.2, hyy]; simp [dplain]
      have HCS := Lib.hid (And.intro cs0 (And.intro cs1 cs2))
      obtain ⟨g', o', hA', hc'⟩ := HA3.out (by intro e; have := congrArg List.length e; simp at this; rw [this] at hkl; simp at hkl)
      subst hA'
      have hcg := de_get (by simpa using hkl) (fun j hj i u hu => HK3.out.cell' (hc' j hj i u hu)) hX
      have HO1 := Lib.hid (fun (W : World) (e : Ext w W) => iDecOneErr s x y W hd hsz (TW.out.ext e))
      rw [← hzz] at HO1
      have HO2 := Lib.hid (fun (W : World) => sOneErr s z W hsz hza)
      obtain ⟨er, her⟩ : ∃ er, er = errText (dOneErr (s, z)) := ⟨_, rfl⟩
      rw [← her] at HO1 HO2
      unfold deCV at HO2
      obtain ⟨x0, x1, x2, x3, e0, e1, e2, e3, -⟩ := words_of z.natAbs
      rw [e0, e1, e2, e3] at HO2 hcg
      obtain ⟨bz, hbz⟩ : ∃ b, b = decide (z < 0) := ⟨_, rfl⟩
      rw [← hbz] at HO2 hcg
      clear e0 e1 e2 e3 hbz hs hxx hyy hzz hX hck hc hc' her hd hsz hza cs0 cs1 cs2
      obtain ⟨c0, c1, c2, c3', c4, c5⟩ := hcg
      have gl := cell_lt c0
      have b0 : (0 : Int) ≤ (k : Int) := by omega
      have b2 : (k : Int) < (n : Int) := by omega
      obtain ⟨W2, hW2⟩ : ∃ W2, W2 = wr.alloc (.cells #[.string s, .bool bz, .int .u64 x0, .int .u64 x1, .int .u64 x2, .int .u64 x3] 46) := ⟨_, rfl⟩
      have K4 := Lib.hid (show Blk W2 wr.heap.size 46 [.string s, .bool bz, .int .u64 x0, .int .u64 x1, .int .u64 x2, .int .u64 x3] by rw [hW2]; exact blk_new0 wr _ [.string s, .bool bz, .int .u64 x0, .int .u64 x1, .int .u64 x2, .int .u64 x3])
      have E2 := Lib.hid (show Ext w W2 by rw [hW2]; exact HE.out.trans' (ext1 _ _))
      have E23 := Lib.hid (show Ext w3 W2 by rw [hW2]; exact HK3.out.trans' (ext1 _ _))
      have HW2 := Lib.hid hW2; clear hW2
      go_upto_region 8 with fail
      rw [← HW2.out]
      generalize wr.heap.size = q at *
      clear c0 c1 c2 c3' c4 c5 gl
      have a0 := E2.out.cell' HCS.out.1; have a1 := E2.out.cell' HCS.out.2.1; have a2 := E2.out.cell' HCS.out.2.2
      have ga := cell_lt a0
      obtain ⟨d0, d1, d2, d3, d4, d5, ld⟩ := six_cells K4.out
      go_cut [15, 27] (fun s15 s27 wx => s15 = .int .i64 k ∧ s27 = .bool false ∧ Ext w3 wx)
      case first =>
        go_region_law (first | (go_simp; go_at_call 39; refine (HO1.out _ (E2.out.trans' (Ext.drewN' _ 1))).mono ?_; rintro e w5 ⟨rfl, hE⟩; have HE5 := Lib.hid (show Ext W2 w5 from Ext.undrew hE); obtain ⟨f0, f1, f2, f3, f4, f5, lf⟩ := six_cells (K4.out.ext HE5.out); clear hE) | (go_simp; go_at_call 40; refine (HO2.out _).mono ?_; rintro e w6 ⟨rfl, hE⟩; have HE6 := Lib.hid (HE5.out.trans' hE); clear hE))
        all_goals (go_wp2_with fail; go_meet)
        all_goals exact ⟨rfl, by simp, E23.out.trans' HE6.out⟩
      case rest =>
        obtain ⟨rfl, rfl, hE⟩ := hcut
        have HX3 := Lib.hid hE; clear hE
        go_wp2
        all_goals first | exact ⟨⟨k + 1, by omega, by go_num, HX3.out⟩, by simp [intOf]; omega⟩ | (go_roundw; all_goals first | exact ⟨k + 1, by omega, by go_num, HX3.out⟩ | (simp [intOf]; omega))
    · obtain rfl : k = n := by omega
      obtain ⟨er, her⟩ : ∃ er, er = errText (dErr [] (l.map dval)) := ⟨_, rfl⟩
      have HER := Lib.hid her; clear her
      go_wp2_with (fail)
      go_at_call 18
      refine (deciAwake _ (TW.out.ext HE.out)).mono ?_
      rintro e w5 ⟨rfl, hE⟩
      have HE5 := Lib.hid (HE.out.trans' hE); clear hE
      go_wp2_with (fail)
      go_at_call 20
      refine (lDeciOwn A k c l _ HL.out (by omega) (HP.out.ext HE5.out)).mono ?_
      rintro e w6 ⟨v6, rfl, hown, hE⟩
      have HE6 := Lib.hid (HE5.out.trans' hE); clear hE
      obtain ⟨A6, c6, rfl, -, hat6⟩ := dplain_slice (n := k) hown HL.out
      have HA6 := Lib.hid hat6
      clear hown hat6
      go_wp2_with (fail)
      go_at_call 41
      refine (iDecErr A6 k c6 l _ HL.out (by omega) HA6.out HD.out (fun x hx => by have := HZ.out x hx; unfold maxLen; omega) (TW.out.ext HE6.out)).mono ?_
      rw [← HER.out]
      rintro e w7 ⟨rfl, hE⟩
      have HE7 := Lib.hid (HE6.out.trans' hE); clear hE
      go_wp2_with (fail)
      go_at_call 23
      refine (lDeciOf A k c l _ HL.out (by omega) (HP.out.ext HE7.out) HD.out).mono ?_
      rintro e w8 ⟨v8, rfl, hown, hE⟩
      have HE8 := Lib.hid (HE7.out.trans' hE); clear hE
      obtain ⟨A8, c8, rfl, hcp8, hat8⟩ := de_slice (n := k) hown (by simp [HL.out])
      have HA8 := Lib.hid hat8
      clear hown hat8
      go_wp2_with (fail)
      go_at_call 42
      refine (sErr A8 k c8 (l.map dval) _ (by simp [HL.out]) (by omega) hcp8 HA8.out (dvals_size (fun x hx => by have := HZ.out x hx; omega)) (dvals_abs HD.out)).mono ?_
      rw [← HER.out]
      rintro e w9 ⟨rfl, hE⟩
      have HE9 := Lib.hid (HE8.out.trans' hE); clear hE
      go_wp2
      go_ret
      exact ⟨by simp, HE9.out⟩
end Go.Proofs.YthnghknmgbimbaaGreatDoor
