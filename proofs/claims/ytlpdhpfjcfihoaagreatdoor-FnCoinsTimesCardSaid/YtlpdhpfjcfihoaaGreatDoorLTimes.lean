/-
  The walk of the law FnCoinsTimes: it returns true.
-/
import Derived.Test.YtlpdhpfjcfihoaaGreatDoorGE
import Derived.Test.YtlpdhpfjcfihoaaGreatDoorGG
import Derived.Test.YtlpdhpfjcfihoaaGreatDoorTimesE
import Derived.BigRegion
import Derived.Deep.Cut
import Derived.BigQuiet
namespace Go.Proofs.YtlpdhpfjcfihoaaGreatDoor
open Go Go.RowKit

theorem sound_set {n : Nat} {l : List (ByteArray × Int)} (h : setB l = true) (hf : Fits n l) : SoundL l := fun x hx => by
  have h1 := listB_mem (setB_list h) x hx
  have h2 := setB_pos h x hx
  have h3 := fits_size hf x hx
  unfold maxLen at h3
  exact ⟨h1.1, by omega, by omega, by unfold maxI; omega⟩
theorem prod_le {x m : Int} (hx0 : 0 ≤ x) (hx : x ≤ 1099511627776) (hm0 : 0 ≤ m) (hm : m ≤ 1048576) : 0 ≤ x * m ∧ x * m ≤ 1152921504606846976 := by
  refine ⟨Int.mul_nonneg hx0 hm0, ?_⟩
  have h1 : x * m ≤ 1099511627776 * m := Int.mul_le_mul_of_nonneg_right hx hm0
  omega
theorem times_back {l : List (ByteArray × Int)} {m : Int} (hm : 0 < m) : (l.map (fun x => (x.1, x.2 * m))).map (fun x => (x.1, Int.tdiv x.2 m)) = l := by
  rw [List.map_map]
  conv => rhs; rw [← List.map_id l]
  apply List.map_congr_left
  rintro ⟨s, x⟩ _
  show (s, Int.tdiv (x * m) m) = (s, x)
  rw [Int.mul_tdiv_cancel _ (by omega)]
theorem sound_times {l : List (ByteArray × Int)} {m : Int} (h : SoundL l) (hb : ∀ x ∈ l, x.2 ≤ 1099511627776) (hm0 : 0 < m) (hm : m ≤ 1048576) : SoundL (l.map (fun x => (x.1, x.2 * m))) := by
  intro x hx
  obtain ⟨y, hy, rfl⟩ := List.mem_map.1 hx
  have h1 := h y hy
  have h2 := prod_le h1.2.2.1 (hb y hy) (Int.le_of_lt hm0) hm
  exact ⟨h1.1, h1.2.1, h2.1, by unfold maxI; omega⟩

set_option maxRecDepth 100000 in
set_option maxHeartbeats 4000000 in
theorem lawTimesOut (A0 : Option Addr) (n0 c0 : Nat) (l0 : List (ByteArray × Int)) (m : Int) (w : World) (hl0 : l0.length = n0) (hn0 : n0 ≤ 9223372036854775807) (h0 : PlainAt w A0 l0) (hm : m < 0 ∨ 1048576 < m) :
    Calls Tryz.prog 3 #[.slice A0 n0 c0, .int .i64 m] w (RetE (.bool true) w) := by
  have HL0 := Lib.hid hl0; have HN0 := Lib.hid hn0; have HP0 := Lib.hid h0
  clear hl0 hn0 h0
  go_enter Tryz.func3, Tryz.ntmps3
  go_wp2_with (fail)
  go_at_call 14
  refine (zFits2 A0 n0 c0 l0 _ HL0.out HN0.out (HP0.out.ext (Ext.refl _))).mono ?_
  rintro e w1 ⟨r, rfl, hf, hE⟩
  have HD1 := Lib.hid hE
  clear hE
  cases r
  · go_wp2_with (fail)
    go_ret
    exact ⟨rfl, (HD1.out)⟩
  have HF0 := Lib.hid (hf rfl); clear hf
  go_wp2_with (fail)
  go_at_call 15
  refine (sIsSumSet A0 n0 c0 l0 _ HL0.out HF0.out (HP0.out.ext HD1.out)).mono ?_
  rintro e w2 ⟨rfl, hE⟩
  have HD2 := Lib.hid (HD1.out.trans' hE)
  clear hE
  cases hb3 : setB l0
  · go_wp2_with (fail)
    go_ret
    exact ⟨rfl, HD2.out⟩
  have HS0 := Lib.hid hb3; clear hb3
  rcases hm with hm | hm
  · go_wp2_with (fail)
    go_ret
    exact ⟨rfl, HD2.out⟩
  · have hm1 : ¬ m < 0 := by omega
    go_wp2_with (fail)
    go_ret
    exact ⟨rfl, HD2.out⟩

theorem lawTimesZero (A0 : Option Addr) (n0 c0 : Nat) (l0 : List (ByteArray × Int)) (m : Int) (w : World) (hl0 : l0.length = n0) (hn0 : n0 ≤ 9223372036854775807) (h0 : PlainAt w A0 l0) (hm : m = 0) :
    Calls Tryz.prog 3 #[.slice A0 n0 c0, .int .i64 m] w (RetE (.bool true) w) := by
  subst hm
  have HL0 := Lib.hid hl0; have HN0 := Lib.hid hn0; have HP0 := Lib.hid h0
  clear hl0 hn0 h0
  go_enter Tryz.func3, Tryz.ntmps3
  go_wp2_with (fail)
  go_at_call 14
  refine (zFits2 A0 n0 c0 l0 _ HL0.out HN0.out (HP0.out.ext (Ext.refl _))).mono ?_
  rintro e w1 ⟨r, rfl, hf, hE⟩
  have HD1 := Lib.hid hE
  clear hE
  cases r
  · go_wp2_with (fail)
    go_ret
    exact ⟨rfl, (HD1.out)⟩
  have HF0 := Lib.hid (hf rfl); clear hf
  go_wp2_with (fail)
  go_at_call 15
  refine (sIsSumSet A0 n0 c0 l0 _ HL0.out HF0.out (HP0.out.ext HD1.out)).mono ?_
  rintro e w2 ⟨rfl, hE⟩
  have HD2 := Lib.hid (HD1.out.trans' hE)
  clear hE
  cases hb3 : setB l0
  · go_wp2_with (fail)
    go_ret
    exact ⟨rfl, HD2.out⟩
  have HS0 := Lib.hid hb3; clear hb3
  have HB0 := Lib.hid (setB_list HS0.out)
  have HSL := Lib.hid (sound_set HS0.out HF0.out)
  have H80 := Lib.hid (show n0 ≤ 8 from by have := listB_len HB0.out; have := HL0.out; omega)
  go_wp2_with (fail)
  go_at_call 17
  refine (lSumTo A0 n0 c0 l0 _ HL0.out (by have := H80.out; omega) (HP0.out.ext HD2.out)).mono ?_
  rintro e w3 ⟨v3, rfl, ho3, hE⟩
  obtain ⟨B3, d3, hv, hp⟩ := pown_len ho3 HL0.out
  subst hv
  have HQ3 := Lib.hid hp; clear hp
  have HD3 := Lib.hid (HD2.out.trans' hE)
  clear hE ho3
  go_wp2_with (fail)
  go_at_call 16
  refine (iMulOfNo B3 n0 d3 l0 _ HL0.out (by have := H80.out; omega) HQ3.out HSL.out).mono ?_
  rintro e w4 ⟨rfl, hE⟩
  have HD4 := Lib.hid (HD3.out.trans' hE)
  clear hE
  go_wp2_with (fail)
  go_at_call 17
  refine (lSumTo A0 n0 c0 l0 _ HL0.out (by have := H80.out; omega) (HP0.out.ext HD4.out)).mono ?_
  rintro e w5 ⟨v5, rfl, ho5, hE⟩
  obtain ⟨B5, d5, hv, hp⟩ := pown_len ho5 HL0.out
  subst hv
  have HQ5 := Lib.hid hp; clear hp
  have HD5 := Lib.hid (HD4.out.trans' hE); have HX5 := Lib.hid hE
  clear hE ho5
  go_wp2_with (fail)
  go_at_call 18
  refine (iQuoOfNo B5 n0 d5 l0 _ HL0.out (by have := H80.out; omega) HQ5.out HSL.out).mono ?_
  rintro e w6 ⟨rfl, hE⟩
  have HD6 := Lib.hid (HD5.out.trans' hE)
  clear hE
  go_wp2_with (fail)
  go_at_call 19
  refine (sumAwake _).mono ?_
  rintro e w7 ⟨rfl, hE⟩
  have HD7 := Lib.hid (HD6.out.trans' hE)
  clear hE
  go_wp2_with (fail)
  go_ret
  exact ⟨rfl, HD7.out⟩

set_option maxRecDepth 100000 in
set_option maxHeartbeats 4000000 in
theorem lawTimesIn (A0 : Option Addr) (n0 c0 : Nat) (l0 : List (ByteArray × Int)) (m : Int) (w : World) (hl0 : l0.length = n0) (hn0 : n0 ≤ 9223372036854775807) (h0 : PlainAt w A0 l0) (hm0 : 0 < m) (hm1 : m ≤ 1048576) :
    Calls Tryz.prog 3 #[.slice A0 n0 c0, .int .i64 m] w (RetE (.bool true) w) := by
  have HL0 := Lib.hid hl0; have HN0 := Lib.hid hn0; have HP0 := Lib.hid h0
  clear hl0 hn0 h0
  go_enter Tryz.func3, Tryz.ntmps3
  go_wp2_with (fail)
  go_at_call 14
  refine (zFits2 A0 n0 c0 l0 _ HL0.out HN0.out (HP0.out.ext (Ext.refl _))).mono ?_
  rintro e w1 ⟨r, rfl, hf, hE⟩
  have HD1 := Lib.hid hE
  clear hE
  cases r
  · go_wp2_with (fail)
    go_ret
    exact ⟨rfl, (HD1.out)⟩
  have HF0 := Lib.hid (hf rfl); clear hf
  go_wp2_with (fail)
  go_at_call 15
  refine (sIsSumSet A0 n0 c0 l0 _ HL0.out HF0.out (HP0.out.ext HD1.out)).mono ?_
  rintro e w2 ⟨rfl, hE⟩
  have HD2 := Lib.hid (HD1.out.trans' hE)
  clear hE
  cases hb3 : setB l0
  · go_wp2_with (fail)
    go_ret
    exact ⟨rfl, HD2.out⟩
  have HS0 := Lib.hid hb3; clear hb3
  have e1 : ¬ m < 0 := by omega
  have e2 : ¬ 1048576 < m := by omega
  have e3 : (m == 0) = false := by simp; omega
  have HB0 := Lib.hid (setB_list HS0.out)
  have HSL := Lib.hid (sound_set HS0.out HF0.out)
  have H80 := Lib.hid (show n0 ≤ 8 from by have := listB_len HB0.out; have := HL0.out; omega)
  go_wp2_with (fail)
  go_at_call 17
  refine (lSumTo A0 n0 c0 l0 _ HL0.out (by have := H80.out; omega) (HP0.out.ext HD2.out)).mono ?_
  rintro e w3 ⟨v3, rfl, ho3, hE⟩
  obtain ⟨B3, d3, hv, hp⟩ := pown_len ho3 HL0.out
  subst hv
  have HQ3 := Lib.hid hp; clear hp
  have HD3 := Lib.hid (HD2.out.trans' hE)
  clear hE ho3
  go_wp2_with (fail)
  go_at_call 16
  have HBM := Lib.hid (fun x hx => (listB_mem HB0.out x hx).2.2)
  refine (iMulOf B3 n0 d3 l0 m _ HL0.out (by have := H80.out; omega) HQ3.out HSL.out hm0 (by unfold maxI; omega) (fun x hx => by have := prod_le (HSL.out x hx).2.2.1 (HBM.out x hx) (Int.le_of_lt hm0) hm1; unfold maxI; omega)).mono ?_
  rintro e w4 ⟨v4, rfl, ho4, hE⟩
  obtain ⟨lm, hlm⟩ : ∃ lm, lm = l0.map (fun x => (x.1, x.2 * m)) := ⟨_, rfl⟩
  rw [← hlm] at ho4
  have HLM := Lib.hid hlm; clear hlm
  have HLN := Lib.hid (show lm.length = n0 by rw [HLM.out, List.length_map, HL0.out])
  obtain ⟨B4, d4, hv, hp⟩ := pown_len ho4 HLN.out
  subst hv
  have HQ4 := Lib.hid hp; clear hp
  have HD4 := Lib.hid (HD3.out.trans' hE)
  clear hE ho4
  go_wp2_with (fail)
  go_at_call 17
  refine (lSumTo A0 n0 c0 l0 _ HL0.out (by have := H80.out; omega) (HP0.out.ext HD4.out)).mono ?_
  rintro e w5 ⟨v5, rfl, ho5, hE⟩
  obtain ⟨B5, d5, hv, hp⟩ := pown_len ho5 HL0.out
  subst hv
  have HQ5 := Lib.hid hp; clear hp
  have HD5 := Lib.hid (HD4.out.trans' hE); have HX5 := Lib.hid hE
  clear hE ho5
  go_wp2_with (fail)
  go_at_call 18
  refine (iQuoOf B5 n0 d5 l0 m _ HL0.out (by have := H80.out; omega) HQ5.out HSL.out hm0 (by unfold maxI; omega)).mono ?_
  rintro e w6 ⟨v6, rfl, ho6, hE⟩
  obtain ⟨lq, hlq⟩ : ∃ lq, lq = l0.map (fun x => (x.1, Int.tdiv x.2 m)) := ⟨_, rfl⟩
  rw [← hlq] at ho6
  have HLQ := Lib.hid hlq; clear hlq
  have HLK := Lib.hid (show lq.length = n0 by rw [HLQ.out, List.length_map, HL0.out])
  obtain ⟨B6, d6, hv, hp⟩ := pown_len ho6 HLK.out
  subst hv
  have HQ6 := Lib.hid hp; clear hp
  have HD6 := Lib.hid (HD5.out.trans' hE)
  have HQ46 := Lib.hid (HQ4.out.ext (HX5.out.trans' hE))
  clear hE ho6 HQ3 HQ5 HQ4 HD1 HD2 HD3 HD4 HD5 HX5
  go_wp2_with (fail)
  go_loopw [74] (fun i wr => ∃ (k : Nat), k ≤ n0 ∧ i = .int .i64 k ∧ Ext w6 wr) (fun i _ => n0 - (intOf i).toNat)
  case atStart => exact ⟨0, Nat.zero_le _, rfl, Ext.refl _⟩
  case round =>
    obtain ⟨k, hk, rfl, hE⟩ := hrel
    have HE := Lib.hid hE
    clear hE
    by_cases hlt : k < n0
    · have hkl : k < l0.length := by rw [HL0.out]; exact hlt
      obtain ⟨s, hs⟩ : ∃ s, s = l0[k].1 := ⟨_, rfl⟩
      obtain ⟨z, hzz⟩ : ∃ z, z = l0[k].2 := ⟨_, rfl⟩
      have hnn : ∀ (l : List (ByteArray × Int)), l.length = n0 → l.map plain ≠ [] := fun l h e => by have := congrArg List.length e; simp at this; rw [this] at h; simp at h; omega
      obtain ⟨g, o, hA, hc⟩ := HP0.out (hnn _ HL0.out)
      obtain ⟨gm, om, hAm, hcm⟩ := HQ46.out (hnn _ HLN.out)
      obtain ⟨gq, oq, hAq, hcq⟩ := HQ6.out (hnn _ HLK.out)
      subst hA hAm hAq
      have hck := hc k (by simpa using hkl)
      have hcm := hcm k (by rw [List.length_map, HLN.out]; exact hlt)
      have hcq := hcq k (by rw [List.length_map, HLK.out]; exact hlt)
      have EW := Lib.hid (HD6.out.trans' HE.out)
      have cs0 : wr.cell? ⟨g, o + k * 2, none⟩ = some (.string s) := EW.out.cell' (by rw [hck.1, hs]; simp [plain])
      have cs1 : wr.cell? ⟨g, o + k * 2 + 1, none⟩ = some (.int .i64 z) := EW.out.cell' (by rw [hck.2, hzz]; simp [plain])
      have cm0 : ∀ ob : Obj, (wr.alloc ob).cell? ⟨gm, om + k * 2, none⟩ = some (.string s) := fun ob => (HE.out.trans' (ext1 wr ob)).cell' (by rw [hcm.1]; simp [plain, HLM.out, hs])
      have cm1 : ∀ ob : Obj, (wr.alloc ob).cell? ⟨gm, om + k * 2 + 1, none⟩ = some (.int .i64 (z * m)) := fun ob => (HE.out.trans' (ext1 wr ob)).cell' (by rw [hcm.2]; simp [plain, HLM.out, hzz])
      have cq0 : ∀ ob : Obj, (wr.alloc ob).cell? ⟨gq, oq + k * 2, none⟩ = some (.string s) := fun ob => (HE.out.trans' (ext1 wr ob)).cell' (by rw [hcq.1]; simp [plain, HLQ.out, hs])
      have cq1 : ∀ ob : Obj, (wr.alloc ob).cell? ⟨gq, oq + k * 2 + 1, none⟩ = some (.int .i64 (Int.tdiv z m)) := fun ob => (HE.out.trans' (ext1 wr ob)).cell' (by rw [hcq.2]; simp [plain, HLQ.out, hzz])
      have hz0 : 0 ≤ z := by rw [hzz]; exact (HSL.out _ (List.getElem_mem hkl)).2.2.1
      have hz1 : z ≤ 1099511627776 := by rw [hzz]; exact HBM.out _ (List.getElem_mem hkl)
      have hp := prod_le hz0 hz1 (Int.le_of_lt hm0) hm1
      have hw1 : IntKind.i64.wrap (z * m) = z * m := by simp only [IntKind.wrap_i64]; omega
      have ht0 := Int.tdiv_nonneg hz0 (Int.le_of_lt hm0)
      have ht1 : Int.tdiv z m ≤ z := Int.tdiv_le_self _ hz0
      have hw2 : IntKind.i64.wrap (Int.tdiv z m) = Int.tdiv z m := by simp only [IntKind.wrap_i64]; omega
      have hmz : ¬ m = 0 := by omega
      have b0 : (0 : Int) ≤ (k : Int) := by omega
      have b1 : (k : Int) < (n0 : Int) := by omega
      have hk8 := H80.out
      clear hs hzz hck hc hcm hcq hnn hp ht0 ht1
      go_upto_region 14 with fail
      go_region
      go_wp2_with (fail)
      go_roundw
      case rel => exact ⟨k + 1, by omega, by go_num, HE.out.trans' (ext_ad _ _ _)⟩
      case measure => simp [intOf]; omega
    · obtain rfl : k = n0 := by omega
      have HD7 := Lib.hid (HD6.out.trans' HE.out)
      go_wp2_with (fail)
      go_at_call 18
      refine (iQuoOf B4 k d4 lm m _ HLN.out (by have := H80.out; omega) (HQ46.out.ext HE.out) (by rw [HLM.out]; exact sound_times HSL.out HBM.out hm0 hm1) hm0 (by unfold maxI; omega)).mono ?_
      rintro e w8 ⟨v8, rfl, ho8, hE⟩
      have hlb : lm.map (fun x => (x.1, Int.tdiv x.2 m)) = l0 := by rw [HLM.out]; exact times_back hm0
      rw [hlb] at ho8
      obtain ⟨B8, d8, hv, hp⟩ := pown_len ho8 HL0.out
      subst hv
      have HQ8 := Lib.hid hp; clear hp
      have HD8 := Lib.hid (HD7.out.trans' hE)
      clear hE ho8 hlb
      go_wp2_with (fail)
      go_at_call 21
      refine (lSumFrom B8 k d8 l0 _ HL0.out (by have := H80.out; omega) HQ8.out).mono ?_
      rintro e w9 ⟨v9, rfl, ho9, hE⟩
      obtain ⟨B9, d9, hv, hp⟩ := pown_len ho9 HL0.out
      subst hv
      have HQ9 := Lib.hid hp; clear hp
      have HD9 := Lib.hid (HD8.out.trans' hE)
      clear hE ho9
      go_wp2_with (fail)
      go_at_call 20
      refine (sSumSame B9 A0 k d9 k c0 l0 l0 _ HL0.out HL0.out (by have := H80.out; omega) (by have := H80.out; omega) HQ9.out (HP0.out.ext HD9.out)).mono ?_
      rintro e w10 ⟨rfl, hE⟩
      have HD10 := Lib.hid (HD9.out.trans' (ext_q hE))
      clear hE
      rw [decide_eq_true rfl]
      go_wp2_with (fail)
      go_at_call 19
      refine (sumAwake _).mono ?_
      rintro e w11 ⟨rfl, hE⟩
      have HD11 := Lib.hid (HD10.out.trans' hE)
      clear hE
      go_wp2_with (fail)
      go_ret
      exact ⟨rfl, HD11.out⟩

theorem lawTimes (A0 : Option Addr) (n0 c0 : Nat) (l0 : List (ByteArray × Int)) (m : Int) (w : World) (hl0 : l0.length = n0) (hn0 : n0 ≤ 9223372036854775807) (h0 : PlainAt w A0 l0) (_ : (Lit.int .i64 m).wf = true) :
    Calls Tryz.prog 3 #[.slice A0 n0 c0, .int .i64 m] w (RetE (.bool true) w) := by
  by_cases h1 : m < 0 ∨ 1048576 < m
  · exact lawTimesOut A0 n0 c0 l0 m w hl0 hn0 h0 h1
  · by_cases h2 : m = 0
    · exact lawTimesZero A0 n0 c0 l0 m w hl0 hn0 h0 h2
    · exact lawTimesIn A0 n0 c0 l0 m w hl0 hn0 h0 (by omega) (by omega)
end Go.Proofs.YtlpdhpfjcfihoaaGreatDoor
