/-
  The walk of the law FnCoinsErr: it returns true.
-/
import Derived.Test.YtagfbefgcijegaaGreatDoorLKit
import Derived.Test.YtagfbefgcijegaaGreatDoorFacts
namespace Go.Proofs.YtagfbefgcijegaaGreatDoor
open Go Go.RowKit

set_option maxRecDepth 100000 in
set_option maxHeartbeats 4000000 in
theorem lawErr (A0 : Option Addr) (n0 c0 : Nat) (l0 : List (ByteArray × Int)) (w : World) (hl0 : l0.length = n0) (hn0 : n0 ≤ 9223372036854775807) (h0 : PlainAt w A0 l0) :
    Calls Tryz.prog 11 #[.slice A0 n0 c0] w (RetE (.bool true) w) := by
  have HL0 := Lib.hid hl0; have HN0 := Lib.hid hn0; have HP0 := Lib.hid h0
  clear hl0 hn0 h0
  go_enter Tryz.func11, Tryz.ntmps11
  go_wp2_with (fail)
  go_at_call 19
  refine (zFits2 A0 n0 c0 l0 _ HL0.out HN0.out (HP0.out.ext (Ext.refl _))).mono ?_
  rintro e w1 ⟨r, rfl, hf, hE⟩
  have HD1 := Lib.hid hE
  clear hE
  cases r
  · go_wp2_with (fail)
    go_ret
    exact ⟨rfl, (HD1.out)⟩
  have HF0 := Lib.hid (hf rfl); clear hf
  by_cases hs : 8 < n0
  · have d1 : decide ((8 : Int) < (n0 : Int)) = true := by simp; omega
    go_wp2_with (fail)
    go_ret
    exact ⟨rfl, HD1.out⟩
  have d1 : decide ((8 : Int) < (n0 : Int)) = false := by simp; omega
  have hn8 : n0 ≤ 8 := by omega
  clear hs
  go_wp2_with (fail)
  clear d1
  go_loopw [14] (fun i wr => ∃ k : Nat, k ≤ n0 ∧ i = .int .i64 k ∧ (∀ x ∈ l0.take k, -1099511627776 ≤ x.2 ∧ x.2 ≤ 1099511627776) ∧ Ext w1 wr) (fun i _ => n0 - (intOf i).toNat)
  case atStart => exact ⟨0, Nat.zero_le _, rfl, (fun x hx => by simp at hx), Ext.refl _⟩
  case round =>
    obtain ⟨k, hk, rfl, hq, hE⟩ := hrel
    have HQ := Lib.hid hq; have HE := Lib.hid hE; clear hq hE
    by_cases hlt : k < n0
    · have hkl : k < l0.length := by rw [HL0.out]; exact hlt
      obtain ⟨s, hs⟩ : ∃ s, s = l0[k].1 := ⟨_, rfl⟩
      obtain ⟨z, hzz⟩ : ∃ z, z = l0[k].2 := ⟨_, rfl⟩
      obtain ⟨g, o, hA, hc⟩ := HP0.out (by intro e; have := congrArg List.length e; simp at this; rw [this] at hkl; simp at hkl)
      subst hA
      have hck := hc k (by simpa using hkl)
      have cs0 : wr.cell? ⟨g, o + k * 2, none⟩ = some (.string s) := (HD1.out.trans' HE.out).cell' (by rw [hck.1, hs]; simp [plain])
      have cs1 : wr.cell? ⟨g, o + k * 2 + 1, none⟩ = some (.int .i64 z) := (HD1.out.trans' HE.out).cell' (by rw [hck.2, hzz]; simp [plain])
      have HZ := Lib.hid hzz
      clear hs hzz hck hc
      by_cases h1 : 200 < s.size
      · have d1 : decide ((200 : Int) < (s.size : Int)) = true := by simp; omega
        go_wp2
        go_ret
        exact ⟨rfl, (HD1.out.trans' HE.out).trans' (Ext.alloc' _ _)⟩
      · have d1 : decide ((200 : Int) < (s.size : Int)) = false := by simp; omega
        by_cases h2 : z < -1099511627776
        · have d2 : decide (z < -1099511627776) = true := by simpa using h2
          go_wp2
          go_ret
          exact ⟨rfl, (HD1.out.trans' HE.out).trans' (Ext.alloc' _ _)⟩
        · have d2 : decide (z < -1099511627776) = false := by simpa using h2
          by_cases h3 : 1099511627776 < z
          · have d3 : decide (1099511627776 < z) = true := by simpa using h3
            go_wp2
            go_ret
            exact ⟨rfl, (HD1.out.trans' HE.out).trans' (Ext.alloc' _ _)⟩
          · have d3 : decide (1099511627776 < z) = false := by simpa using h3
            have HB := Lib.hid (show -1099511627776 ≤ z ∧ z ≤ 1099511627776 by omega)
            clear h1 h2 h3
            go_wp2
            go_roundw
            case rel =>
              refine ⟨k + 1, by omega, by go_num, fun x hx => ?_, HE.out.trans' (Ext.alloc' _ _)⟩
              rw [List.take_succ_eq_append_getElem hkl, List.mem_append, List.mem_singleton] at hx
              rcases hx with hx | rfl
              · exact HQ.out x hx
              · rw [← HZ.out]; exact HB.out
            case measure => simp [intOf]; omega
    · obtain rfl : k = n0 := by omega
      have HBM := Lib.hid (show ∀ x ∈ l0, -maxI ≤ x.2 ∧ x.2 ≤ maxI from fun x hx => by
        have := HQ.out x (by rw [List.take_of_length_le (by rw [HL0.out]; exact Nat.le_refl _)]; exact hx)
        unfold maxI; omega)
      have H80 := Lib.hid hn8
      have HD2 := HE
      clear hn8
      go_wp2_with (fail)
      go_at_call 51
      refine (sSumErr A0 k c0 l0 _ HL0.out HF0.out (HP0.out.ext ((HD1.out).trans' HD2.out))).mono ?_
      rintro e w3 ⟨o, ho, rfl, hE⟩
      have HD3 := Lib.hid hE
      have HO := Lib.hid ho; clear hE ho
      cases o with
      | none =>
        go_wp2_with (fail)
        go_at_call 22
        refine (lSumTo A0 k c0 l0 _ HL0.out (by have := HL0.out; have := H80.out; omega) (HP0.out.ext (((HD1.out).trans' HD2.out).trans' HD3.out))).mono ?_
        rintro e w4 ⟨v4, rfl, ho4, hE⟩
        obtain ⟨B4, d4, hv, hp⟩ := pown_len ho4 HL0.out
        subst hv
        have HQ4 := Lib.hid hp; clear hp
        have HD4 := Lib.hid hE
        clear hE ho4
        go_wp2_with (fail)
        go_at_call 52
        refine (iCoinsErr B4 k d4 l0 _ HL0.out (by have := HL0.out; have := H80.out; omega) HQ4.out HBM.out (fits_size HF0.out)).mono ?_
        rintro e w5 ⟨o2, ho2, rfl, hE⟩
        obtain rfl := errIs_unique HO.out ho2
        have HD5 := Lib.hid hE
        clear hE ho2
        go_wp2_with (fail)
        go_at_call 22
        refine (lSumTo A0 k c0 l0 _ HL0.out (by have := HL0.out; have := H80.out; omega) (HP0.out.ext (((((HD1.out).trans' HD2.out).trans' HD3.out).trans' HD4.out).trans' HD5.out))).mono ?_
        rintro e w6 ⟨v6, rfl, ho6, hE⟩
        obtain ⟨B6, d6, hv, hp⟩ := pown_len ho6 HL0.out
        subst hv
        have HQ6 := Lib.hid hp; clear hp
        have HD6 := Lib.hid hE
        clear hE ho6
        go_wp2_with (fail)
        go_at_call 49
        refine (iAbout B6 k d6 l0 _ HL0.out (by have := HL0.out; have := H80.out; omega) HQ6.out HBM.out (fits_size HF0.out)).mono ?_
        rintro e w7 ⟨o2, ho2, rfl, hE⟩
        obtain rfl := errIs_unique HO.out ho2
        have HD7 := Lib.hid hE
        rw [show (none : Option ByteArray).isNone = true from rfl]
        have hfd : ∀ (a b c d e : Bool) (W : World), (Instr.field 56 (.agg #[.bool a, .bool b, .bool c, .bool d, .bool e]) 0).run Tryz.prog W = .ok (.bool a) W := fun _ _ _ _ _ _ => by kernel_rfl
        clear hE ho2
        go_wp2_with (fail)
        go_at_call 24
        refine (sumAwake _).mono ?_
        rintro e w8 ⟨rfl, hE⟩
        have HD8 := Lib.hid hE
        clear hE
        go_wp2_with (fail)
        go_ret
        exact ⟨rfl, ((((((((HD1.out).trans' HD2.out).trans' HD3.out).trans' HD4.out).trans' HD5.out).trans' HD6.out).trans' HD7.out).trans' HD8.out)⟩
      | some t =>
        go_wp2_with (fail)
        go_at_call 22
        refine (lSumTo A0 k c0 l0 _ HL0.out (by have := HL0.out; have := H80.out; omega) (HP0.out.ext (((HD1.out).trans' HD2.out).trans' HD3.out))).mono ?_
        rintro e w4 ⟨v4, rfl, ho4, hE⟩
        obtain ⟨B4, d4, hv, hp⟩ := pown_len ho4 HL0.out
        subst hv
        have HQ4 := Lib.hid hp; clear hp
        have HD4 := Lib.hid hE
        clear hE ho4
        go_wp2_with (fail)
        go_at_call 52
        refine (iCoinsErr B4 k d4 l0 _ HL0.out (by have := HL0.out; have := H80.out; omega) HQ4.out HBM.out (fits_size HF0.out)).mono ?_
        rintro e w5 ⟨o2, ho2, rfl, hE⟩
        obtain rfl := errIs_unique HO.out ho2
        have HD5 := Lib.hid hE
        clear hE ho2
        obtain ⟨hne, hne2⟩ := err_ne2 HO.out
        go_wp2_with (fail)
        go_at_call 22
        refine (lSumTo A0 k c0 l0 _ HL0.out (by have := HL0.out; have := H80.out; omega) (HP0.out.ext (((((HD1.out).trans' HD2.out).trans' HD3.out).trans' HD4.out).trans' HD5.out))).mono ?_
        rintro e w6 ⟨v6, rfl, ho6, hE⟩
        obtain ⟨B6, d6, hv, hp⟩ := pown_len ho6 HL0.out
        subst hv
        have HQ6 := Lib.hid hp; clear hp
        have HD6 := Lib.hid hE
        clear hE ho6
        go_wp2_with (fail)
        go_at_call 49
        refine (iAbout B6 k d6 l0 _ HL0.out (by have := HL0.out; have := H80.out; omega) HQ6.out HBM.out (fits_size HF0.out)).mono ?_
        rintro e w7 ⟨o2, ho2, rfl, hE⟩
        obtain rfl := errIs_unique HO.out ho2
        have HD7 := Lib.hid hE
        rw [show (some t : Option ByteArray).isNone = false from rfl]
        have hfd : ∀ (a b c d e : Bool) (W : World), (Instr.field 56 (.agg #[.bool a, .bool b, .bool c, .bool d, .bool e]) 0).run Tryz.prog W = .ok (.bool a) W := fun _ _ _ _ _ _ => by kernel_rfl
        clear hE ho2
        go_wp2_with (fail)
        go_at_call 24
        refine (sumAwake _).mono ?_
        rintro e w8 ⟨rfl, hE⟩
        have HD8 := Lib.hid hE
        clear hE
        go_wp2_with (fail)
        go_ret
        exact ⟨rfl, ((((((((HD1.out).trans' HD2.out).trans' HD3.out).trans' HD4.out).trans' HD5.out).trans' HD6.out).trans' HD7.out).trans' HD8.out)⟩
end Go.Proofs.YtagfbefgcijegaaGreatDoor
