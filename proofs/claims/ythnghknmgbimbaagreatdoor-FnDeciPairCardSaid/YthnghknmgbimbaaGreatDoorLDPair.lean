/-
  The walk of the law FnDeciPair: it returns true.
-/
import Derived.Test.YthnghknmgbimbaaGreatDoorGT
import Derived.Test.YthnghknmgbimbaaGreatDoorGQ
import Derived.Test.YthnghknmgbimbaaGreatDoorDOne
import Derived.Test.YthnghknmgbimbaaGreatDoorGR
import Derived.BigQuiet
import Derived.Deep.QuietTactic
import Derived.Deep.DeepCutAuto
namespace Go.Proofs.YthnghknmgbimbaaGreatDoor
open Go Go.RowKit

theorem dplain_two (W : World) (s t : ByteArray) (y0 z0 y1 z1 : Int) (T : TypeId) : DPlainAt (W.alloc (.cells #[.string s, .int .i64 y0, .int .i64 z0, .string t, .int .i64 y1, .int .i64 z1] T)) (some ⟨W.heap.size, 0, none⟩) [(s, y0, z0), (t, y1, z1)] := fun _ => by
  have k := blk_new0 W T [.string s, .int .i64 y0, .int .i64 z0, .string t, .int .i64 y1, .int .i64 z1]
  refine ⟨_, 0, rfl, fun j hj => ?_⟩
  have hj2 : j < 2 := by simpa using hj
  rcases (show j = 0 ∨ j = 1 by omega) with rfl | rfl
  · exact ⟨(k.cell 0).trans rfl, (k.cell 1).trans rfl, (k.cell 2).trans rfl⟩
  · exact ⟨(k.cell 3).trans rfl, (k.cell 4).trans rfl, (k.cell 5).trans rfl⟩
theorem dec_abs {x y : Int} (h : DecB x y) : (decV x y).natAbs < B64 ^ 2 := by
  obtain ⟨_, _, hs⟩ := decB_abs h
  unfold decV; omega
theorem two_abs {x y : Int} (h0 : x.natAbs < B64 ^ 2) (h1 : y.natAbs < B64 ^ 2) : x.natAbs + y.natAbs < B64 ^ 4 ∧ (x - y).natAbs < B64 ^ 4 := by
  have : B64 ^ 2 + B64 ^ 2 ≤ B64 ^ 4 := by unfold B64; decide
  omega

set_option maxRecDepth 100000 in
set_option maxHeartbeats 4000000 in
theorem lawDPair (s0 : ByteArray) (y0 z0 : Int) (s1 : ByteArray) (y1 z1 : Int) (w : World) (hT : Thr w) :
    Calls Tryz.prog 4 #[dpV s0 y0 z0, dpV s1 y1 z1] w (RetE (.bool true) w) := by
  obtain ⟨W, hW⟩ : ∃ W, W = (w.alloc (dpBox s0 y0 z0)).alloc (dpBox s1 y1 z1) := ⟨_, rfl⟩
  have K0 := Lib.hid (show Blk W w.heap.size 36 [.string s0, .int .i64 y0, .int .i64 z0] by rw [hW]; exact (blk_new0 w 36 [.string s0, .int .i64 y0, .int .i64 z0]).alloc _)
  have K1 := Lib.hid (show Blk W (w.heap.size + 1) 36 [.string s1, .int .i64 y1, .int .i64 z1] by rw [hW]; exact blk_new1 w _ 36 [.string s1, .int .i64 y1, .int .i64 z1])
  have EW := Lib.hid (show Ext w W by rw [hW]; exact ext2 _ _ _)
  have TW := Lib.hid (show Thr W from hT.ext EW.out)
  have HWW := Lib.hid hW; clear hW hT
  go_enter Tryz.func4, Tryz.ntmps4
  go_wp2_with (fail)
  go_at_call 24
  rw [← HWW.out]
  refine (zFits4 s0 y0 z0 _).mono ?_
  obtain ⟨b1, hb1⟩ : ∃ b, b = decide (s0.size ≤ 2147483647) := ⟨_, rfl⟩
  rw [← hb1]
  clear hb1
  rintro e w1 ⟨rfl, hE⟩
  have HE1 := Lib.hid hE; clear hE
  cases b1
  · go_wp2
    go_ret
    exact ⟨rfl, EW.out.trans' HE1.out⟩
  obtain ⟨c10, c11, c12, -⟩ := dcells_three (K1.out.ext HE1.out)
  go_wp2_with (fail)
  go_at_call 24
  refine (zFits4 s1 y1 z1 _).mono ?_
  obtain ⟨b2, hb2⟩ : ∃ b, b = decide (s1.size ≤ 2147483647) := ⟨_, rfl⟩
  rw [← hb2]
  clear hb2
  rintro e w2 ⟨rfl, hE⟩
  have HE2 := Lib.hid (HE1.out.trans' hE); clear hE c10 c11 c12
  cases b2
  · go_wp2
    go_ret
    exact ⟨rfl, EW.out.trans' HE2.out⟩
  obtain ⟨c00, c01, c02, -⟩ := dcells_three (K0.out.ext HE2.out)
  obtain ⟨c10, c11, c12, -⟩ := dcells_three (K1.out.ext HE2.out)
  go_wp2_with (fail)
  go_at_call 25
  refine (dFew (some ⟨w2.heap.size, 0, none⟩) 2 2 [(s0, y0, z0), (s1, y1, z1)] _ rfl (by omega) (dplain_two _ _ _ _ _ _ _ _)).mono ?_
  obtain ⟨b3, hb3⟩ : ∃ b, b = fewB [(s0, y0, z0), (s1, y1, z1)] := ⟨_, rfl⟩
  rw [← hb3]
  have HB3 := Lib.hid hb3; clear hb3
  rintro e w3 ⟨rfl, hE⟩
  have HE3 := Lib.hid ((HE2.out.trans' (ext1 _ _)).trans' hE); clear hE c00 c01 c02 c10 c11 c12
  cases b3
  · go_wp2_with (fail)
    go_at_call 18
    refine (deciAwake _ (TW.out.ext HE3.out)).mono ?_
    rintro e w4 ⟨rfl, hE⟩
    have HE4 := Lib.hid hE; clear hE
    go_wp2
    go_ret
    exact ⟨rfl, (EW.out.trans' HE3.out).trans' HE4.out⟩
  have HBD := Lib.hid (fewB_mem HB3.out.symm)
  have HD0 := Lib.hid (show DecB y0 z0 from (HBD.out.2 (s0, y0, z0) (by simp)).2)
  have HD1 := Lib.hid (show DecB y1 z1 from (HBD.out.2 (s1, y1, z1) (by simp)).2)
  clear HBD HB3
  obtain ⟨c00, c01, c02, -⟩ := dcells_three (K0.out.ext HE3.out)
  obtain ⟨c10, c11, c12, -⟩ := dcells_three (K1.out.ext HE3.out)
  go_wp2_with (fail)
  go_at_call 23
  refine (lDeciOf (some ⟨w3.heap.size, 0, none⟩) 2 2 [(s0, y0, z0), (s1, y1, z1)] _ rfl (by omega) (dplain_two _ _ _ _ _ _ _ _) (by
    intro x hx
    simp only [List.mem_cons, List.not_mem_nil, or_false] at hx
    rcases hx with rfl | rfl
    · exact HD0.out
    · exact HD1.out)).mono ?_
  rintro e w4 ⟨v5, rfl, hown, hE⟩
  have HE4 := Lib.hid ((HE3.out.trans' (ext1 _ _)).trans' hE); clear hE c00 c01 c02 c10 c11 c12
  obtain ⟨A5, cp5, rfl, hcp, hat⟩ := de_slice (n := 2) hown rfl
  obtain ⟨g, o, rfl, hc⟩ := hat (by simp)
  obtain ⟨u, hu⟩ : ∃ u, u = decV y0 z0 := ⟨_, rfl⟩
  obtain ⟨v, hv⟩ : ∃ v, v = decV y1 z1 := ⟨_, rfl⟩
  have g0 := de_get (k := 0) (s := s0) (z := u) (by simp) hc (by rw [hu]; rfl)
  have g1 := de_get (k := 1) (s := s1) (z := v) (by simp) hc (by rw [hv]; rfl)
  have HU := Lib.hid hu; have HV := Lib.hid hv
  have hab := two_abs (by rw [hu]; exact dec_abs HD0.out : u.natAbs < B64 ^ 2) (by rw [hv]; exact dec_abs HD1.out : v.natAbs < B64 ^ 2)
  have HAB := Lib.hid hab
  clear hc hown hat hu hv hab
  obtain ⟨p0, p1, p2, p3, p4, p5⟩ := g0
  obtain ⟨q0, q1, q2, q3, q4, q5⟩ := g1
  simp only [Nat.zero_mul, Nat.add_zero, Nat.one_mul] at p0 p1 p2 p3 p4 p5 q0 q1 q2 q3 q4 q5
  have HM := Lib.hid (fun W => sMinus u v W HAB.out.1)
  have HS := Lib.hid (fun W => sSign (u - v) W HAB.out.2)
  obtain ⟨n, hn⟩ : ∃ n, n = sgn (u - v) := ⟨_, rfl⟩
  rw [← hn] at HS
  have HN := Lib.hid hn; clear hn
  go_upto_region 6 with fail
  go_cut [6] (fun s6 wx => s6 = .int .i64 n ∧ Ext W wx)
  case first =>
    go_region_law (first | (go_simp; go_at_call 27; refine (HM.out _).mono ?_; rintro e w5 ⟨rfl, hE⟩; have HE5 := Lib.hid (HE4.out.trans' (Ext.undrew hE)); clear hE) | (go_simp; go_at_call 26; refine (HS.out _).mono ?_; rintro e w6 ⟨rfl, hE⟩; have HE6 := Lib.hid (HE5.out.trans' hE); clear hE))
    all_goals (go_wp2_with fail; go_meet)
    all_goals exact ⟨rfl, HE6.out⟩
  case rest =>
  obtain ⟨rfl, hE⟩ := hcut
  have HE6 := Lib.hid hE; clear hE
  clear p0 p1 p2 p3 p4 p5 q0 q1 q2 q3 q4 q5
  by_cases hst : s0 = s1
  · subst hst
    rcases Int.lt_trichotomy u v with h | h | h
    · obtain rfl : n = -1 := by rw [HN.out]; unfold sgn; rw [if_pos (by omega)]
      have HC := Lib.hid (fun (V : World) (hV : Thr V) => iDecCompareOne_same s0 y0 z0 y1 z1 V HD0.out HD1.out hV false true false (by rw [← HU.out, ← HV.out]; simp <;> omega) (by rw [← HU.out, ← HV.out]; simp <;> omega) (by rw [← HU.out, ← HV.out]; unfold dcEq; simp <;> omega))
      obtain ⟨c00, c01, c02, -⟩ := dcells_three (K0.out.ext HE6.out)
      obtain ⟨c10, c11, c12, -⟩ := dcells_three (K1.out.ext HE6.out)
      go_wp2_with (fail)
      go_at_call 18
      refine (deciAwake _ (TW.out.ext HE6.out)).mono ?_
      rintro e w7 ⟨rfl, hE⟩
      have HE7 := Lib.hid (HE6.out.trans' hE); clear hE c00 c01 c02 c10 c11 c12
      obtain ⟨c00, c01, c02, -⟩ := dcells_three (K0.out.ext HE7.out)
      obtain ⟨c10, c11, c12, -⟩ := dcells_three (K1.out.ext HE7.out)
      go_wp2_with (fail)
      go_at_call 28
      refine (HC.out _ (TW.out.ext HE7.out)).mono ?_
      rintro e w8 ⟨rfl, hE⟩
      have HE8 := Lib.hid (HE7.out.trans' hE); clear hE c00 c01 c02 c10 c11 c12
      go_wp2
      go_ret
      exact ⟨rfl, EW.out.trans' HE8.out⟩
    · obtain rfl : n = 0 := by rw [HN.out]; unfold sgn; rw [if_neg (by omega), if_neg (by omega)]
      have HC := Lib.hid (fun (V : World) (hV : Thr V) => iDecCompareOne_same s0 y0 z0 y1 z1 V HD0.out HD1.out hV true false true (by rw [← HU.out, ← HV.out]; simp <;> omega) (by rw [← HU.out, ← HV.out]; simp <;> omega) (by rw [← HU.out, ← HV.out]; unfold dcEq; simp <;> omega))
      obtain ⟨c00, c01, c02, -⟩ := dcells_three (K0.out.ext HE6.out)
      obtain ⟨c10, c11, c12, -⟩ := dcells_three (K1.out.ext HE6.out)
      go_wp2_with (fail)
      go_at_call 18
      refine (deciAwake _ (TW.out.ext HE6.out)).mono ?_
      rintro e w7 ⟨rfl, hE⟩
      have HE7 := Lib.hid (HE6.out.trans' hE); clear hE c00 c01 c02 c10 c11 c12
      obtain ⟨c00, c01, c02, -⟩ := dcells_three (K0.out.ext HE7.out)
      obtain ⟨c10, c11, c12, -⟩ := dcells_three (K1.out.ext HE7.out)
      go_wp2_with (fail)
      go_at_call 28
      refine (HC.out _ (TW.out.ext HE7.out)).mono ?_
      rintro e w8 ⟨rfl, hE⟩
      have HE8 := Lib.hid (HE7.out.trans' hE); clear hE c00 c01 c02 c10 c11 c12
      go_wp2
      go_ret
      exact ⟨rfl, EW.out.trans' HE8.out⟩
    · obtain rfl : n = 1 := by rw [HN.out]; unfold sgn; rw [if_neg (by omega), if_pos (by omega)]
      have HC := Lib.hid (fun (V : World) (hV : Thr V) => iDecCompareOne_same s0 y0 z0 y1 z1 V HD0.out HD1.out hV true false false (by rw [← HU.out, ← HV.out]; simp <;> omega) (by rw [← HU.out, ← HV.out]; simp <;> omega) (by rw [← HU.out, ← HV.out]; unfold dcEq; simp <;> omega))
      obtain ⟨c00, c01, c02, -⟩ := dcells_three (K0.out.ext HE6.out)
      obtain ⟨c10, c11, c12, -⟩ := dcells_three (K1.out.ext HE6.out)
      go_wp2_with (fail)
      go_at_call 18
      refine (deciAwake _ (TW.out.ext HE6.out)).mono ?_
      rintro e w7 ⟨rfl, hE⟩
      have HE7 := Lib.hid (HE6.out.trans' hE); clear hE c00 c01 c02 c10 c11 c12
      obtain ⟨c00, c01, c02, -⟩ := dcells_three (K0.out.ext HE7.out)
      obtain ⟨c10, c11, c12, -⟩ := dcells_three (K1.out.ext HE7.out)
      go_wp2_with (fail)
      go_at_call 28
      refine (HC.out _ (TW.out.ext HE7.out)).mono ?_
      rintro e w8 ⟨rfl, hE⟩
      have HE8 := Lib.hid (HE7.out.trans' hE); clear hE c00 c01 c02 c10 c11 c12
      go_wp2
      go_ret
      exact ⟨rfl, EW.out.trans' HE8.out⟩
  · have hne : (s0.toList == s1.toList) = false := by rw [key_beq]; simpa using hst
    have HC := Lib.hid (fun (V : World) (hV : Thr V) => iDecCompareOne_other s0 s1 y0 z0 y1 z1 V HD0.out HD1.out hV hst false (by unfold dcEq; rw [hne]; rfl))
    clear hst
    obtain ⟨c00, c01, c02, -⟩ := dcells_three (K0.out.ext HE6.out)
    obtain ⟨c10, c11, c12, -⟩ := dcells_three (K1.out.ext HE6.out)
    go_wp2_with (fail)
    go_at_call 18
    refine (deciAwake _ (TW.out.ext HE6.out)).mono ?_
    rintro e w7 ⟨rfl, hE⟩
    have HE7 := Lib.hid (HE6.out.trans' hE); clear hE c00 c01 c02 c10 c11 c12
    obtain ⟨c00, c01, c02, -⟩ := dcells_three (K0.out.ext HE7.out)
    obtain ⟨c10, c11, c12, -⟩ := dcells_three (K1.out.ext HE7.out)
    go_wp2_with (fail)
    go_at_call 28
    refine (HC.out _ (TW.out.ext HE7.out)).mono ?_
    rintro e w8 ⟨rfl, hE⟩
    have HE8 := Lib.hid (HE7.out.trans' hE); clear hE c00 c01 c02 c10 c11 c12
    go_wp2
    go_ret
    exact ⟨rfl, EW.out.trans' HE8.out⟩
end Go.Proofs.YthnghknmgbimbaaGreatDoor
