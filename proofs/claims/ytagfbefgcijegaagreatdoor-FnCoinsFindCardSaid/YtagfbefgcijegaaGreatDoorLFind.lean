/-
  The walk of the law FnCoinsFind: it returns true.
-/
import Derived.Test.YtagfbefgcijegaaGreatDoorLKit
import Derived.Test.YtagfbefgcijegaaGreatDoorSet
import Derived.Test.YtagfbefgcijegaaGreatDoorFind2
import Derived.Test.YtagfbefgcijegaaGreatDoorDenoms
namespace Go.Proofs.YtagfbefgcijegaaGreatDoor
open Go Go.RowKit

set_option maxRecDepth 100000 in
set_option maxHeartbeats 4000000 in
theorem lawFind (A0 : Option Addr) (n0 c0 : Nat) (l0 : List (ByteArray × Int)) (d : ByteArray) (w : World) (hl0 : l0.length = n0) (hn0 : n0 ≤ 9223372036854775807) (h0 : PlainAt w A0 l0) :
    Calls Tryz.prog 6 #[.slice A0 n0 c0, .string d] w (RetE (.bool true) w) := by
  have HL0 := Lib.hid hl0; have HN0 := Lib.hid hn0; have HP0 := Lib.hid h0
  clear hl0 hn0 h0
  go_enter Tryz.func6, Tryz.ntmps6
  go_wp2_with (fail)
  go_at_call 19
  refine (zFits2 A0 n0 c0 l0 _ HL0.out HN0.out (HP0.out.ext (Ext.refl _))).mono ?_
  rintro e w1 ⟨r, rfl, hf, hE⟩
  have HD1 := Lib.hid hE
  clear hE
  cases r
  · go_wp2_with (fail)
    go_ret
    exact ⟨rfl, (HD1.out)⟩
  have HF0 := Lib.hid (hf rfl); clear hf
  by_cases hs : 2147483647 < d.size
  · have d1 : decide ((2147483647 : Int) < (d.size : Int)) = true := by simp; omega
    go_wp2_with (fail)
    go_ret
    exact ⟨rfl, HD1.out⟩
  have d1 : decide ((2147483647 : Int) < (d.size : Int)) = false := by simp; omega
  have HSZ := Lib.hid (show d.size ≤ 9223372036854775807 by omega)
  clear hs
  go_wp2_with (fail)
  clear d1
  go_at_call 28
  refine (sIsSumSet A0 n0 c0 l0 _ HL0.out HF0.out (HP0.out.ext (HD1.out))).mono ?_
  rintro e w2 ⟨rfl, hE⟩
  have HD2 := Lib.hid hE
  clear hE
  cases hb2 : setB l0
  · go_wp2_with (fail)
    go_ret
    exact ⟨rfl, ((HD1.out).trans' HD2.out)⟩
  have HS0 := Lib.hid hb2; clear hb2
  go_wp2_with (fail)
  have HB0 := Lib.hid (setB_list HS0.out)
  have H80 := Lib.hid (show n0 ≤ 8 from by have := listB_len HB0.out; have := HL0.out; omega)
  go_at_call 32
  refine (sDenom d _ HSZ.out).mono ?_
  rintro e w3 ⟨rfl, hw⟩
  have HD3 := Lib.hid (show Ext w2 w3 by rw [hw]; exact Ext.refl _)
  clear hw
  cases hb : denomB d
  · go_wp2_with (fail)
    go_ret
    exact ⟨rfl, (((HD1.out).trans' HD2.out).trans' HD3.out)⟩
  clear hb
  go_wp2_with (fail)
  go_at_call 33
  refine (sSumOf A0 n0 c0 l0 d _ HL0.out (by have := HL0.out; have := H80.out; omega) (HP0.out.ext (((HD1.out).trans' HD2.out).trans' HD3.out)) (setB_strict HS0.out)).mono ?_
  rintro e w4 ⟨rfl, hE⟩
  have HD4 := Lib.hid hE
  clear hE
  have HNE := Lib.hid (find_amount (d := d) (setB_strict HS0.out) (setB_pos HS0.out))
  have HB2 := Lib.hid (total_max (d := d) (setB_strict HS0.out) (listB_max HB0.out))
  obtain ⟨z, hz⟩ : ∃ z, z = totalP d l0 := ⟨_, rfl⟩
  rw [← hz] at HNE HB2 ⊢
  have HZ := Lib.hid hz; clear hz
  go_wp2_with (fail)
  rcases HNE.out with ⟨hy, hz0⟩ | ⟨hno, hz0⟩
  · have HY := Lib.hid hy; clear hy
    have d1 : decide (0 < z) = true := by simpa using hz0
    clear hz0 HNE
    go_at_call 22
    refine (lSumTo A0 n0 c0 l0 _ HL0.out (by have := HL0.out; have := H80.out; omega) (HP0.out.ext ((((HD1.out).trans' HD2.out).trans' HD3.out).trans' HD4.out))).mono ?_
    rintro e w5 ⟨v5, rfl, ho5, hE⟩
    obtain ⟨B5, d5, hv, hp⟩ := pown_len ho5 HL0.out
    subst hv
    have HQ5 := Lib.hid hp; clear hp
    have HD5 := Lib.hid hE
    clear hE ho5
    go_wp2_with (fail)
    go_at_call 34
    refine (iFindIn B5 n0 d5 l0 d _ HL0.out (by have := HL0.out; have := H80.out; omega) HQ5.out (listB_max HB0.out) (setB_strict HS0.out)).mono ?_
    intro e w6 h
    obtain ⟨he, hE⟩ := findin_some h (setB_strict HS0.out) HY.out
    rw [← HZ.out] at he
    subst he
    have HD6 := Lib.hid hE
    have HC := Lib.hid (blk_new0 w6 37 [.string d, .int .i64 z])
    clear hE h
    go_wp2_with (fail)
    go_at_call 22
    refine (lSumTo A0 n0 c0 l0 _ HL0.out (by have := HL0.out; have := H80.out; omega) ((HP0.out.ext ((((((HD1.out).trans' HD2.out).trans' HD3.out).trans' HD4.out).trans' HD5.out).trans' HD6.out)).ext (Ext.alloc' _ _))).mono ?_
    rintro e w7 ⟨v7, rfl, ho7, hE⟩
    obtain ⟨B7, d7, hv, hp⟩ := pown_len ho7 HL0.out
    subst hv
    have HQ7 := Lib.hid hp; clear hp
    have HC1 := Lib.hid (HC.out.ext hE)
    have HD7 := Lib.hid ((Ext.alloc' _ _).trans' hE)
    clear hE ho7
    go_wp2_with (fail)
    go_at_call 35
    refine (iAmountOf B7 n0 d7 l0 d _ HL0.out (by have := HL0.out; have := H80.out; omega) HQ7.out (listB_max HB0.out) (setB_strict HS0.out) (by rw [← HZ.out]; exact HB2.out.1) (by rw [← HZ.out]; exact HB2.out.2)).mono ?_
    rintro e w8 ⟨rfl, hE⟩
    have HD8 := Lib.hid hE
    clear hE
    rw [← HZ.out]
    have HC2 := Lib.hid (HC1.out.ext HD8.out)
    have c0 : w8.cell? ⟨w6.heap.size, 0, none⟩ = some (.string d) := (HC2.out.cell 0).trans rfl
    have c1 : w8.cell? ⟨w6.heap.size, 1, none⟩ = some (.int .i64 z) := (HC2.out.cell 1).trans rfl
    go_wp2_with (fail)
    clear c0 c1
    go_at_call 22
    refine (lSumTo A0 n0 c0 l0 _ HL0.out (by have := HL0.out; have := H80.out; omega) (HP0.out.ext ((((((((HD1.out).trans' HD2.out).trans' HD3.out).trans' HD4.out).trans' HD5.out).trans' HD6.out).trans' HD7.out).trans' HD8.out))).mono ?_
    rintro e w9 ⟨v9, rfl, ho9, hE⟩
    obtain ⟨B9, d9, hv, hp⟩ := pown_len ho9 HL0.out
    subst hv
    have HQ9 := Lib.hid hp; clear hp
    have HD9 := Lib.hid hE
    clear hE ho9
    go_wp2_with (fail)
    go_at_call 36
    refine (iDenomsOf B9 n0 d9 l0 _ HL0.out (by have := HL0.out; have := H80.out; omega) HQ9.out (listB_max HB0.out)).mono ?_
    intro e w10 h
    obtain ⟨BN, rfl, hN, hE⟩ := names_n h HL0.out
    have HD10 := Lib.hid hE
    have HN := Lib.hid hN; clear hN hE h
    go_wp2_with (fail)
    have hn8 := H80.out
    go_loopw [68] (fun i wr => ∃ k : Nat, k ≤ n0 ∧ i = .int .i64 k ∧ Ext w10 wr) (fun i _ => n0 - (intOf i).toNat)
    case atStart => exact ⟨0, Nat.zero_le _, rfl, Ext.refl _⟩
    case round =>
      obtain ⟨k, hk, rfl, hE⟩ := hrel
      have HE := Lib.hid hE; clear hE
      by_cases hlt : k < n0
      · have hkl : k < l0.length := by rw [HL0.out]; exact hlt
        obtain ⟨s, hs⟩ : ∃ s, s = l0[k].1 := ⟨_, rfl⟩
        obtain ⟨g, o, hA, hc⟩ := HP0.out (by intro e; have := congrArg List.length e; simp at this; rw [this] at hkl; simp at hkl)
        obtain ⟨g', o', hB, hc'⟩ := HN.out (by intro e; have := congrArg List.length e; simp at this; rw [this] at hkl; simp at hkl)
        subst hA; subst hB
        have cs0 : wr.cell? ⟨g, o + k * 2, none⟩ = some (.string s) := (((((((((((HD1.out).trans' HD2.out).trans' HD3.out).trans' HD4.out).trans' HD5.out).trans' HD6.out).trans' HD7.out).trans' HD8.out).trans' HD9.out).trans' HD10.out).trans' HE.out).cell' (by rw [(hc k (by simpa using hkl)).1, hs]; simp [plain])
        have ct0 : wr.cell? ⟨g', o' + k, none⟩ = some (.string s) := HE.out.cell' (by rw [hc' k (by simpa using hkl), hs]; simp)
        have b0 : (0 : Int) ≤ (k : Int) := by omega
        have b1 : (k : Int) < (n0 : Int) := by omega
        clear hs hc hc'
        go_wp2
        go_quiet (fail)
        go_wp2
        go_roundw
        case rel => exact ⟨k + 1, by omega, by go_num, HE.out.trans' (Ext.drewN' _ _)⟩
        case measure => simp [intOf]; omega
      · obtain rfl : k = n0 := by omega
        go_wp2_with (fail)
        go_at_call 24
        refine (sumAwake _).mono ?_
        rintro e w99 ⟨rfl, hE⟩
        have HE9 := Lib.hid hE; clear hE
        go_wp2
        go_ret
        exact ⟨rfl, (((((((((((HD1.out).trans' HD2.out).trans' HD3.out).trans' HD4.out).trans' HD5.out).trans' HD6.out).trans' HD7.out).trans' HD8.out).trans' HD9.out).trans' HD10.out).trans' HE.out).trans' HE9.out⟩
  · have HY := Lib.hid hno; clear hno
    subst hz0; clear HNE
    go_at_call 22
    refine (lSumTo A0 n0 c0 l0 _ HL0.out (by have := HL0.out; have := H80.out; omega) (HP0.out.ext ((((HD1.out).trans' HD2.out).trans' HD3.out).trans' HD4.out))).mono ?_
    rintro e w5 ⟨v5, rfl, ho5, hE⟩
    obtain ⟨B5, d5, hv, hp⟩ := pown_len ho5 HL0.out
    subst hv
    have HQ5 := Lib.hid hp; clear hp
    have HD5 := Lib.hid hE
    clear hE ho5
    go_wp2_with (fail)
    go_at_call 34
    refine (iFindIn B5 n0 d5 l0 d _ HL0.out (by have := HL0.out; have := H80.out; omega) HQ5.out (listB_max HB0.out) (setB_strict HS0.out)).mono ?_
    intro e w6 h
    obtain ⟨he, hE⟩ := findin_none h (setB_strict HS0.out) HY.out
    subst he
    have HD6 := Lib.hid hE
    have HC := Lib.hid (blk_new0 w6 37 [.string ⟨#[]⟩, .int .i64 0])
    clear hE h
    go_wp2_with (fail)
    go_at_call 22
    refine (lSumTo A0 n0 c0 l0 _ HL0.out (by have := HL0.out; have := H80.out; omega) ((HP0.out.ext ((((((HD1.out).trans' HD2.out).trans' HD3.out).trans' HD4.out).trans' HD5.out).trans' HD6.out)).ext (Ext.alloc' _ _))).mono ?_
    rintro e w7 ⟨v7, rfl, ho7, hE⟩
    obtain ⟨B7, d7, hv, hp⟩ := pown_len ho7 HL0.out
    subst hv
    have HQ7 := Lib.hid hp; clear hp
    have HC1 := Lib.hid (HC.out.ext hE)
    have HD7 := Lib.hid ((Ext.alloc' _ _).trans' hE)
    clear hE ho7
    go_wp2_with (fail)
    go_at_call 35
    refine (iAmountOf B7 n0 d7 l0 d _ HL0.out (by have := HL0.out; have := H80.out; omega) HQ7.out (listB_max HB0.out) (setB_strict HS0.out) (by rw [← HZ.out]; exact HB2.out.1) (by rw [← HZ.out]; exact HB2.out.2)).mono ?_
    rintro e w8 ⟨rfl, hE⟩
    have HD8 := Lib.hid hE
    clear hE
    rw [← HZ.out]
    have HC2 := Lib.hid (HC1.out.ext HD8.out)
    have c0 : w8.cell? ⟨w6.heap.size, 0, none⟩ = some (.string ⟨#[]⟩) := (HC2.out.cell 0).trans rfl
    have c1 : w8.cell? ⟨w6.heap.size, 1, none⟩ = some (.int .i64 0) := (HC2.out.cell 1).trans rfl
    go_wp2_with (fail)
    clear c0 c1
    go_at_call 22
    refine (lSumTo A0 n0 c0 l0 _ HL0.out (by have := HL0.out; have := H80.out; omega) (HP0.out.ext ((((((((HD1.out).trans' HD2.out).trans' HD3.out).trans' HD4.out).trans' HD5.out).trans' HD6.out).trans' HD7.out).trans' HD8.out))).mono ?_
    rintro e w9 ⟨v9, rfl, ho9, hE⟩
    obtain ⟨B9, d9, hv, hp⟩ := pown_len ho9 HL0.out
    subst hv
    have HQ9 := Lib.hid hp; clear hp
    have HD9 := Lib.hid hE
    clear hE ho9
    go_wp2_with (fail)
    go_at_call 36
    refine (iDenomsOf B9 n0 d9 l0 _ HL0.out (by have := HL0.out; have := H80.out; omega) HQ9.out (listB_max HB0.out)).mono ?_
    intro e w10 h
    obtain ⟨BN, rfl, hN, hE⟩ := names_n h HL0.out
    have HD10 := Lib.hid hE
    have HN := Lib.hid hN; clear hN hE h
    go_wp2_with (fail)
    have hn8 := H80.out
    go_loopw [68] (fun i wr => ∃ k : Nat, k ≤ n0 ∧ i = .int .i64 k ∧ Ext w10 wr) (fun i _ => n0 - (intOf i).toNat)
    case atStart => exact ⟨0, Nat.zero_le _, rfl, Ext.refl _⟩
    case round =>
      obtain ⟨k, hk, rfl, hE⟩ := hrel
      have HE := Lib.hid hE; clear hE
      by_cases hlt : k < n0
      · have hkl : k < l0.length := by rw [HL0.out]; exact hlt
        obtain ⟨s, hs⟩ : ∃ s, s = l0[k].1 := ⟨_, rfl⟩
        obtain ⟨g, o, hA, hc⟩ := HP0.out (by intro e; have := congrArg List.length e; simp at this; rw [this] at hkl; simp at hkl)
        obtain ⟨g', o', hB, hc'⟩ := HN.out (by intro e; have := congrArg List.length e; simp at this; rw [this] at hkl; simp at hkl)
        subst hA; subst hB
        have cs0 : wr.cell? ⟨g, o + k * 2, none⟩ = some (.string s) := (((((((((((HD1.out).trans' HD2.out).trans' HD3.out).trans' HD4.out).trans' HD5.out).trans' HD6.out).trans' HD7.out).trans' HD8.out).trans' HD9.out).trans' HD10.out).trans' HE.out).cell' (by rw [(hc k (by simpa using hkl)).1, hs]; simp [plain])
        have ct0 : wr.cell? ⟨g', o' + k, none⟩ = some (.string s) := HE.out.cell' (by rw [hc' k (by simpa using hkl), hs]; simp)
        have b0 : (0 : Int) ≤ (k : Int) := by omega
        have b1 : (k : Int) < (n0 : Int) := by omega
        clear hs hc hc'
        go_wp2
        go_quiet (fail)
        go_wp2
        go_roundw
        case rel => exact ⟨k + 1, by omega, by go_num, HE.out.trans' (Ext.drewN' _ _)⟩
        case measure => simp [intOf]; omega
      · obtain rfl : k = n0 := by omega
        go_wp2_with (fail)
        go_at_call 24
        refine (sumAwake _).mono ?_
        rintro e w99 ⟨rfl, hE⟩
        have HE9 := Lib.hid hE; clear hE
        go_wp2
        go_ret
        exact ⟨rfl, (((((((((((HD1.out).trans' HD2.out).trans' HD3.out).trans' HD4.out).trans' HD5.out).trans' HD6.out).trans' HD7.out).trans' HD8.out).trans' HD9.out).trans' HD10.out).trans' HE.out).trans' HE9.out⟩
end Go.Proofs.YtagfbefgcijegaaGreatDoor
