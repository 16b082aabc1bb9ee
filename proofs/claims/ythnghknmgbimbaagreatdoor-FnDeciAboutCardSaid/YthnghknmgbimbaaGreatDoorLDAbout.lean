/-
  The walk of the law FnDeciAbout: it returns true.
-/
import Derived.Test.YthnghknmgbimbaaGreatDoorGW
import Derived.Test.YthnghknmgbimbaaGreatDoorLDErrs
namespace Go.Proofs.YthnghknmgbimbaaGreatDoor
open Go Go.RowKit

theorem dErr_text (S : List ByteArray) (l : List (ByteArray × Int)) : (dErr S l = none ∧ errText (dErr S l) = ⟨#[]⟩) ∨ ((dErr S l).isNone = false ∧ (errText (dErr S l) = dDupl ∨ errText (dErr S l) = invDenom ∨ errText (dErr S l) = dNotSorted ∨ errText (dErr S l) = dNotPos)) := by
  induction l generalizing S with
  | nil => exact Or.inl ⟨rfl, rfl⟩
  | cons x r ih =>
    have key : dErrOne S x = none ∨ dErrOne S x = some dDupl ∨ dErrOne S x = some invDenom ∨ dErrOne S x = some dNotSorted ∨ dErrOne S x = some dNotPos := by
      unfold dErrOne
      by_cases h1 : seenB S x.1 = true
      · rw [if_pos h1]; exact Or.inr (Or.inl rfl)
      · rw [if_neg h1]
        by_cases h2 : denomB x.1 = false
        · rw [if_pos h2]; exact Or.inr (Or.inr (Or.inl rfl))
        · rw [if_neg h2]
          by_cases h3 : behind S x.1 = true
          · rw [if_pos h3]; exact Or.inr (Or.inr (Or.inr (Or.inl rfl)))
          · rw [if_neg h3]
            by_cases h4 : x.2 ≤ 0
            · rw [if_pos h4]; exact Or.inr (Or.inr (Or.inr (Or.inr rfl)))
            · rw [if_neg h4]; exact Or.inl rfl
    rcases key with h | h | h | h | h
    · rw [dErr_none h]; exact ih _
    · rw [dErr_some h]; exact Or.inr ⟨rfl, Or.inl rfl⟩
    · rw [dErr_some h]; exact Or.inr ⟨rfl, Or.inr (Or.inl rfl)⟩
    · rw [dErr_some h]; exact Or.inr ⟨rfl, Or.inr (Or.inr (Or.inl rfl))⟩
    · rw [dErr_some h]; exact Or.inr ⟨rfl, Or.inr (Or.inr (Or.inr rfl))⟩
theorem vnz_nil_iff (l : List (ByteArray × Int)) : (vnz l).length = 0 ↔ dAllZero l = true := by
  unfold vnz dAllZero
  rw [List.length_eq_zero_iff, List.filter_eq_nil_iff, List.all_eq_true]
  constructor
  · intro h x hx; have := h x hx; simpa using this
  · intro h x hx; have := h x hx; simpa using this

/-- The facts that the law expects, in a new variable. -/
def AbBox (r0 r1 r2 r3 r4 : Bool) (W : World) (u : Value) (wx : World) : Prop := ∃ q, u = .pointer (some ⟨q, 0, none⟩) ∧ Blk wx q 67 [.bool r0, .bool r1, .bool r2, .bool r3, .bool r4] ∧ Ext W wx ∧ W.heap.size ≤ q

set_option maxRecDepth 100000 in
set_option maxHeartbeats 4000000 in
theorem lawDAbout (A : Option Addr) (n c : Nat) (l : List DP) (w : World) (hl : l.length = n) (hn : n ≤ 9223372036854775807) (h : DPlainAt w A l) (hT : Thr w) :
    Calls Tryz.prog 9 #[.slice A n c] w (RetE (.bool true) w) := by
  have HL := Lib.hid hl; have HP := Lib.hid h; have TW := Lib.hid hT
  clear hl h hT
  go_enter Tryz.func9, Tryz.ntmps9
  go_wp2_with (fail)
  go_at_call 16
  refine (zFits3 A n c l _ HL.out hn HP.out).mono ?_
  rintro e w1 ⟨r, rfl, hf, hE⟩
  have HE1 := Lib.hid hE; clear hE
  cases r
  · go_wp2
    go_ret
    exact ⟨rfl, HE1.out⟩
  clear hf
  go_wp2_with (fail)
  go_at_call 25
  refine (dFew A n c l _ HL.out hn (HP.out.ext HE1.out)).mono ?_
  obtain ⟨b2, hb2⟩ : ∃ b, b = fewB l := ⟨_, rfl⟩
  rw [← hb2]
  have HB2 := Lib.hid hb2; clear hb2
  rintro e w2 ⟨rfl, hE⟩
  have HE2 := Lib.hid (HE1.out.trans' hE); clear hE
  cases b2
  · go_wp2_with (go_at_call 18; refine (deciAwake _ (TW.out.ext HE2.out)).mono ?_; rintro e w3 ⟨rfl, hE⟩; have HE3 := Lib.hid hE; clear hE)
    go_ret
    exact ⟨rfl, HE2.out.trans' HE3.out⟩
  have HF := Lib.hid (fewB_mem HB2.out.symm)
  have hn12 : n ≤ 12 := by have := HF.out.1; rw [HL.out] at this; exact this
  have HD := Lib.hid (show ∀ x ∈ l, DecB x.2.1 x.2.2 from fun x hx => (HF.out.2 x hx).2)
  have HZ := Lib.hid (show ∀ x ∈ l, x.1.size ≤ 130 from fun x hx => (HF.out.2 x hx).1)
  clear HB2 HF
  obtain ⟨L, hLL⟩ : ∃ L, L = l.map dval := ⟨_, rfl⟩
  have HLL := Lib.hid hLL
  have HLN := Lib.hid (show L.length = n by rw [hLL, List.length_map, HL.out])
  have HLA := Lib.hid (show ∀ x ∈ L, x.2.natAbs < B64 ^ 4 by rw [hLL]; exact dvals_abs HD.out)
  have HLS := Lib.hid (show ∀ x ∈ L, x.1.size ≤ 9223372036854775807 by rw [hLL]; exact dvals_size (fun x hx => by have := HZ.out x hx; omega))
  have HAB := Lib.hid (fun (V : World) (A' : Option Addr) (c' : Nat) (ha : DPlainAt V A' l) (ht : Thr V) => iDecAbout A' n c' l V HL.out (by omega) ha HD.out (fun x hx => by have := HZ.out x hx; unfold maxLen; omega) ht)
  rw [← hLL] at HAB
  clear hLL
  go_wp2_with (fail)
  go_at_call 23
  refine (lDeciOf A n c l _ HL.out (by omega) (HP.out.ext HE2.out) HD.out).mono ?_
  rw [← HLL.out]
  rintro e w3 ⟨v3, rfl, hown, hE⟩
  have HE3 := Lib.hid (HE2.out.trans' hE); clear hE
  obtain ⟨A3, c3, rfl, hcp, hat⟩ := de_slice (n := n) hown HLN.out
  have HA3 := Lib.hid hat
  have HCP := Lib.hid hcp
  clear hown hat hcp
  obtain ⟨er, her⟩ : ∃ er, er = errText (dErr [] L) := ⟨_, rfl⟩
  obtain ⟨r0, hr0⟩ : ∃ r, r = (dErr [] L).isNone := ⟨_, rfl⟩
  obtain ⟨r1, hr1⟩ : ∃ r, r = dAllZero L := ⟨_, rfl⟩
  obtain ⟨r2, hr2⟩ : ∃ r, r = decide (n = 0) := ⟨_, rfl⟩
  obtain ⟨r4, hr4⟩ : ∃ r, r = dAnyNeg L := ⟨_, rfl⟩
  have htx := dErr_text [] L
  rw [← her, ← hr0] at htx
  have htx' : (r0 = true ∧ er = ⟨#[]⟩) ∨ (r0 = false ∧ (er = dDupl ∨ er = invDenom ∨ er = dNotSorted ∨ er = dNotPos)) := htx.imp (fun ⟨a, b⟩ => ⟨by rw [hr0, a]; rfl, b⟩) id
  have HTX := Lib.hid htx'
  rw [← hr0, ← hr1, ← hr2, ← hr4] at HAB
  have HER := Lib.hid her; have HR1 := Lib.hid hr1; have HR2 := Lib.hid hr2; have HR4 := Lib.hid hr4
  clear her hr0 hr1 hr2 hr4 htx htx'
  go_upto_region 6 with fail
  go_cut [4] (fun s4 wx => AbBox r0 r1 r2 (decide (0 < n)) r4 w3 s4 wx)
  case first =>
    go_wp2_with (fail)
    go_at_call 42
    refine (sErr A3 n c3 L _ HLN.out (by omega) HCP.out HA3.out HLS.out HLA.out).mono ?_
    rw [← HER.out]
    rintro e w4 ⟨rfl, hE⟩
    have HE4 := Lib.hid hE; clear hE
    have hcase := HTX.out
    have G1 := Lib.hid HR1.out
    have hn0 : decide ((0 : Int) < (n : Int)) = decide (0 < n) := by rw [decide_eq_decide]; omega
    have hn1 : ((n : Int) == 0) = r2 := by rw [HR2.out, Bool.eq_iff_iff]; simp
    have HN01 := Lib.hid (And.intro hn0 hn1)
    clear hn0 hn1
    rcases hcase with ⟨h0, h1⟩ | ⟨h0, h1 | h1 | h1 | h1⟩
    all_goals (
      clear HER HTX
      subst h0; subst h1
      go_wp2_with (fail)
      go_at_call 43
      refine (sSome A3 n c3 L _ HLN.out (by omega) (HA3.out.ext HE4.out) HLA.out).mono ?_
      rintro e w5 ⟨v5, rfl, hown, hE⟩
      have HE5 := Lib.hid (HE4.out.trans' hE); clear hE
      obtain ⟨A5, c5, rfl, -, -⟩ := de_slice hown rfl
      clear hown
      have hv5 : ((((vnz L).length : Nat) : Int) == 0) = r1 := by
        rw [G1.out, Bool.eq_iff_iff, ← vnz_nil_iff]; simp
      obtain ⟨m, hm⟩ : ∃ m, m = (vnz L).length := ⟨_, rfl⟩
      rw [← hm] at hv5 ⊢
      clear hm
      obtain ⟨hn0, hn1⟩ := HN01.out
      have HNEG := Lib.hid (fun (V : World) (e : Ext w3 V) => sNegative A3 n c3 L V HLN.out (by omega) (HA3.out.ext e) HLA.out)
      rw [← HR4.out] at HNEG
      go_wp2_with (go_at_call 35; refine (HNEG.out _ HE5.out).mono ?_; rintro e w6 ⟨rfl, hE⟩; have HE6 := Lib.hid (HE5.out.trans' hE); clear hE)
      go_meet
      exact ⟨_, rfl, blk_new0 w6 _ [.bool _, .bool r1, .bool r2, .bool (decide (0 < n)), .bool r4], HE6.out.trans' (ext1 _ _), HE6.out.size⟩)
  case rest =>
    obtain ⟨q, rfl, hk, hE, hq⟩ := hcut
    have KQ := Lib.hid hk; have HEC := Lib.hid hE; have HQS := Lib.hid hq
    clear hk hE hq HTX HR1 HR2 HER
    obtain ⟨p0, hp0⟩ : ∃ p, p = decide (0 < n) := ⟨_, rfl⟩
    rw [← hp0] at KQ HAB
    have HP0 := Lib.hid hp0; clear hp0
    go_wp2_with (fail)
    go_loopw [34] (fun i wr => ∃ (k : Nat) (p : Bool), k ≤ n ∧ i = .int .i64 k ∧ p = (p0 && (L.take k).all fun x => decide (0 < x.2)) ∧ Blk wr q 67 [.bool r0, .bool r1, .bool r2, .bool p, .bool r4] ∧ Only q wc wr) (fun i _ => n - (intOf i).toNat)
    case atStart => exact ⟨0, p0, Nat.zero_le _, rfl, by simp, KQ.out, Only.refl _ _⟩
    case round =>
      obtain ⟨k, p, hk, rfl, hp, hb, ho⟩ := hrel
      have HPK := Lib.hid hp; have HB := Lib.hid hb; have HO := Lib.hid ho
      clear hp hb ho
      by_cases hlt : k < n
      · have hkl : k < L.length := by rw [HLN.out]; exact hlt
        obtain ⟨s, hs⟩ : ∃ s, s = L[k].1 := ⟨_, rfl⟩
        obtain ⟨z, hzz⟩ : ∃ z, z = L[k].2 := ⟨_, rfl⟩
        have HX := Lib.hid (show L[k] = (s, z) by rw [hs, hzz])
        obtain ⟨g, o, hA, hcc⟩ := HA3.out (by intro e; rw [e] at hkl; simp at hkl)
        subst hA
        have hck := de_get hkl (fun j hj i u hu => by
          have h3 := hcc j hj i u hu
          have hg := cell_lt h3
          exact HO.out.cell (HEC.out.cell' h3) (by have := HQS.out; omega)) HX.out
        have hzk : z.natAbs < B64 ^ 4 := by rw [hzz]; exact HLA.out _ (List.getElem_mem hkl)
        have HSG := Lib.hid (fun W => sSign z W hzk)
        unfold de deV at HSG
        obtain ⟨x0, x1, x2, x3, e0, e1, e2, e3, -⟩ := words_of z.natAbs
        rw [e0, e1, e2, e3] at HSG hck
        obtain ⟨bz, hbz⟩ : ∃ b, b = decide (z < 0) := ⟨_, rfl⟩
        rw [← hbz] at HSG hck
        clear e0 e1 e2 e3 hzk hbz hs hzz hcc
        obtain ⟨c0, c1, c2, c3', c4, c5⟩ := hck
        have gl := cell_lt c0
        have b0 : (0 : Int) ≤ (k : Int) := by omega
        have b2 : (k : Int) < (n : Int) := by omega
        obtain ⟨W2, hW2⟩ : ∃ W2, W2 = wr.alloc (.cells #[.string s, .bool bz, .int .u64 x0, .int .u64 x1, .int .u64 x2, .int .u64 x3] 46) := ⟨_, rfl⟩
        have K6 := Lib.hid (show Blk W2 wr.heap.size 46 [.string s, .bool bz, .int .u64 x0, .int .u64 x1, .int .u64 x2, .int .u64 x3] by rw [hW2]; exact blk_new0 wr _ [.string s, .bool bz, .int .u64 x0, .int .u64 x1, .int .u64 x2, .int .u64 x3])
        have KB := Lib.hid (show Blk W2 q 67 [.bool r0, .bool r1, .bool r2, .bool p, .bool r4] by rw [hW2]; exact HB.out.ext (ext1 _ _))
        have HO2 := Lib.hid (show Only q wc W2 by rw [hW2]; exact HO.out.trans' (Only.of_ext (ext1 _ _)))
        have HW2 := Lib.hid hW2; clear hW2
        go_upto_region 10 with fail
        rw [← HW2.out]
        generalize wr.heap.size = q2 at *
        clear c0 c1 c2 c3' c4 c5 gl
        obtain ⟨d0, d1, d2, d3, d4, d5, ld⟩ := six_cells K6.out
        obtain ⟨a0, a1, a2, a3, a4, la⟩ := five_cells KB.out
        obtain ⟨f0, f1, f2, f3, f4⟩ := five_frozen KB.out
        obtain ⟨sg, hsg⟩ : ∃ sg, sg = sgn z := ⟨_, rfl⟩
        rw [← hsg] at HSG
        have HSS := Lib.hid (show 0 < sg ↔ 0 < z by
          rw [hsg]; unfold sgn
          constructor
          · intro h
            split at h
            · omega
            · split at h
              · assumption
              · omega
          · intro h; rw [if_neg (by omega), if_pos h]; omega)
        clear hsg
        have HPN := Lib.hid (show (p0 && (L.take (k + 1)).all fun x => decide (0 < x.2)) = (p && decide (0 < z)) by
          rw [all_take hkl, HPK.out, HX.out, Bool.and_assoc])
        cases p
        · go_wp2
          go_roundw
          case rel => exact ⟨k + 1, false, by omega, by go_num, by rw [HPN.out]; rfl, KB.out.set_ 3 _, HO2.out.set_ 3 _⟩
          case measure => simp [intOf]; omega
        · by_cases h0 : 0 < z
          · have hs0 : 0 < sg := HSS.out.2 h0
            have F := Lib.hid (show (p0 && (L.take (k + 1)).all fun x => decide (0 < x.2)) = true by rw [HPN.out]; simp [h0])
            clear h0
            go_wp2_with (go_at_call 26; refine (HSG.out _).mono ?_; rintro e w1 ⟨rfl, hE⟩; have KB2 := Lib.hid (KB.out.ext hE); have HO3 := Lib.hid (HO2.out.trans' (Only.of_ext hE)); clear a0 a1 a2 a3 a4 la f0 f1 f2 f3 f4; obtain ⟨a0, a1, a2, a3, a4, la⟩ := five_cells KB2.out; obtain ⟨f0, f1, f2, f3, f4⟩ := five_frozen KB2.out; clear hE)
            go_roundw
            case rel => exact ⟨k + 1, true, by omega, by go_num, by rw [F.out], KB2.out.set_ 3 _, HO3.out.set_ 3 _⟩
            case measure => simp [intOf]; omega
          · have hs0 : ¬ 0 < sg := fun e => h0 (HSS.out.1 e)
            have hs1 : decide (0 < sg) = false := decide_eq_false hs0
            have F := Lib.hid (show (p0 && (L.take (k + 1)).all fun x => decide (0 < x.2)) = false by rw [HPN.out]; simp [h0])
            clear h0
            go_wp2_with (go_at_call 26; refine (HSG.out _).mono ?_; rintro e w1 ⟨rfl, hE⟩; have KB2 := Lib.hid (KB.out.ext hE); have HO3 := Lib.hid (HO2.out.trans' (Only.of_ext hE)); clear a0 a1 a2 a3 a4 la f0 f1 f2 f3 f4; obtain ⟨a0, a1, a2, a3, a4, la⟩ := five_cells KB2.out; obtain ⟨f0, f1, f2, f3, f4⟩ := five_frozen KB2.out; clear hE)
            go_roundw
            case rel => exact ⟨k + 1, false, by omega, by go_num, by rw [F.out], KB2.out.set_ 3 _, HO3.out.set_ 3 _⟩
            case measure => simp [intOf]; omega
      · obtain rfl : k = n := by omega
        have HEW := Lib.hid (HE3.out.trans' (Only.ext HEC.out HO.out HQS.out))
        have HPE := Lib.hid (show (p0 && dAllPos L) = p by
          have := HPK.out; rw [List.take_of_length_le (by rw [HLN.out]; exact Nat.le_refl _)] at this; exact this.symm)
        rw [HPE.out] at HAB
        obtain ⟨a0, a1, a2, a3, a4, la⟩ := five_cells HB.out
        go_wp2_with (fail)
        go_region_law (first | (go_simp; go_at_call 18; refine (deciAwake _ (TW.out.ext (HEW.out.trans' (Ext.drewN' _ 1)))).mono ?_; rintro e w7 ⟨rfl, hE⟩; have HE7 := Lib.hid (show Ext wr w7 from Ext.undrew hE); obtain ⟨d0, d1, d2, d3, d4, ld⟩ := five_cells (HB.out.ext HE7.out); clear hE) | (go_simp; go_at_call 20; refine (lDeciOwn A k c l _ HL.out (by omega) (HP.out.ext (HEW.out.trans' HE7.out))).mono ?_; rintro e w8 ⟨v8, rfl, hown, hE⟩; have HE8 := Lib.hid (HE7.out.trans' hE); obtain ⟨A8, c8, rfl, -, hat8⟩ := dplain_slice (n := k) hown HL.out; have HA8 := Lib.hid hat8; obtain ⟨g0, g1, g2, g3, g4, lg⟩ := five_cells (HB.out.ext HE8.out); clear hown hat8 hE) | (go_simp; go_at_call 44; refine (HAB.out _ A8 c8 HA8.out (TW.out.ext (HEW.out.trans' HE8.out))).mono ?_; rintro e w9 ⟨rfl, hE⟩; have HE9 := Lib.hid (HE8.out.trans' hE); obtain ⟨i0, i1, i2, i3, i4, li⟩ := five_cells (HB.out.ext HE9.out); clear hE))
        all_goals go_wp2
        all_goals go_ret
        all_goals exact ⟨rfl, HEW.out.trans' HE9.out⟩
end Go.Proofs.YthnghknmgbimbaaGreatDoor
