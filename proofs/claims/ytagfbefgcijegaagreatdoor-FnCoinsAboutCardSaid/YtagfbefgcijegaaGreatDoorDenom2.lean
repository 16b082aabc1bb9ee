/-
  The contract of the reference's question whether a text is a denomination.
-/
import Derived.Test.YtagfbefgcijegaaGreatDoorDenom
namespace Go.Proofs.YtagfbefgcijegaaGreatDoor
open Go Go.RowKit

theorem okAt_letter {j v : Nat} (h : letterN v = true) : okAt j v = true := by unfold okAt; split; exact h; exact restN_letter h
theorem okAt_zero {j v : Nat} (hj : j = 0) (h : letterN v = false) : okAt j v = false := by unfold okAt; rw [if_pos hj]; exact h

set_option maxRecDepth 100000 in
set_option maxHeartbeats 2000000 in
theorem sDenom (s : ByteArray) (w : World) (hs : s.size ≤ 9223372036854775807) : Calls Tryz.prog 32 #[.string s] w fun e w' => e = .returned (.bool (denomB s)) ∧ w' = w := by
  by_cases h1 : s.size < 3
  · have F := Lib.hid (denomB_short h1)
    have d1 : decide (s.size < 3) = true := by simpa using h1
    go_enter Tryz.func32, Tryz.ntmps32
    go_wp2
    go_ret
    rw [F.out]; exact ⟨rfl, rfl⟩
  · by_cases h2 : 128 < s.size
    · have F := Lib.hid (denomB_long h2)
      have d1 : decide (s.size < 3) = false := by simpa using h1
      have d2 : decide (128 < s.size) = true := by simpa using h2
      go_enter Tryz.func32, Tryz.ntmps32
      go_wp2
      go_ret
      rw [F.out]; exact ⟨rfl, rfl⟩
    · have d1 : decide (s.size < 3) = false := by simpa using h1
      have d2 : decide (128 < s.size) = false := by simpa using h2
      go_enter Tryz.func32, Tryz.ntmps32
      go_wp2
      go_loop [16] (fun i => ∃ k : Nat, k ≤ s.size ∧ i = .int .i64 k ∧ ∀ j, (h : j < s.size) → j < k → okAt j s[j].toNat = true) (fun i => s.size - (intOf i).toNat)
      case atStart => exact ⟨0, Nat.zero_le _, rfl, fun j hj h => by omega⟩
      case round =>
        obtain ⟨k, hk, rfl, hq⟩ := hrel
        have HQ := Lib.hid hq; clear hq
        by_cases hlt : k < s.size
        · obtain ⟨v, hv⟩ : ∃ v : Nat, s[k].toNat = v := ⟨_, rfl⟩
          have hrunk : ∀ W, (Instr.index 9 (.string s) (.int .i64 (k : Int))).run Tryz.prog W = .ok (.int .u8 (v : Int)) W := fun W => by subst hv; simp [go_sem, hlt]
          have HV := Lib.hid hv; clear hv
          rcases (show (97 ≤ v ∧ v ≤ 122 ∨ 65 ≤ v ∧ v ≤ 90) ∨ 122 < v ∨ v < 48 ∨ 48 ≤ v ∧ v ≤ 57 ∨ 57 < v ∧ v < 65 ∨ 90 < v ∧ v < 97 by omega) with hc | hc | hc | hc | hc | hc
          · have F := Lib.hid (okAt_letter (j := k) (v := v) (by unfold letterN; rcases hc with ⟨a, b⟩ | ⟨a, b⟩ <;> simp <;> omega))
            rcases hc with ⟨a, b⟩ | ⟨a, b⟩
            · have b1 : decide ((97 : Int) ≤ (v : Int)) = true := by simp; omega
              have b2 : decide ((v : Int) ≤ 122) = true := by simp; omega
              go_wp2
              go_round
              · exact ⟨k + 1, by omega, by go_num, ok_step HQ.out HV.out F.out⟩
              · simp [intOf]; omega
            · have b1 : decide ((97 : Int) ≤ (v : Int)) = false := by simp; omega
              have b3 : decide ((65 : Int) ≤ (v : Int)) = true := by simp; omega
              have b4 : decide ((v : Int) ≤ 90) = true := by simp; omega
              go_wp2
              go_round
              · exact ⟨k + 1, by omega, by go_num, ok_step HQ.out HV.out F.out⟩
              · simp [intOf]; omega
          · have HL := Lib.hid (show letterN v = false by unfold letterN; simp; omega)
            have b1 : decide ((97 : Int) ≤ (v : Int)) = true := by simp; omega
            have b2 : decide ((v : Int) ≤ 122) = false := by simp; omega
            have b3 : decide ((65 : Int) ≤ (v : Int)) = true := by simp; omega
            have b4 : decide ((v : Int) ≤ 90) = false := by simp; omega
            have c1 : decide ((48 : Int) ≤ (v : Int)) = true := by simp; omega
            have c2 : decide ((v : Int) ≤ 57) = false := by simp; omega
            go_wp2
            all_goals first | (have e0 : k = 0 := (by omega); have F := Lib.hid (denomB_false k hlt (by rw [HV.out]; exact okAt_zero e0 HL.out)); go_ret; rw [F.out]; exact ⟨rfl, rfl⟩) | (have F := Lib.hid (okAt_rest (j := k) (by omega) (restN_other (v := v) (by omega))); go_round; all_goals first | exact ⟨k + 1, by omega, by go_num, ok_step HQ.out HV.out F.out⟩ | (simp [intOf]; omega)) | (have hx := ‹((k : Int) == 0) = false ∧ _›; have F := Lib.hid (okAt_rest (j := k) (by simp at hx; omega) (restN_other (v := v) (by simp at hx; omega))); go_round; all_goals first | exact ⟨k + 1, by omega, by go_num, ok_step HQ.out HV.out F.out⟩ | (simp [intOf]; omega)) | (have hx := ‹((k : Int) == 0) = true ∨ _›; have F := Lib.hid (denomB_false k hlt (by rw [HV.out]; by_cases e0 : k = 0; exact okAt_zero e0 HL.out; exact okAt_not (by omega) (restN_false (by rw [HL.out]; exact Bool.false_ne_true) (by simp at hx; omega)))); go_ret; rw [F.out]; exact ⟨rfl, rfl⟩)
          · have HL := Lib.hid (show letterN v = false by unfold letterN; simp; omega)
            have b1 : decide ((97 : Int) ≤ (v : Int)) = false := by simp; omega
            have b3 : decide ((65 : Int) ≤ (v : Int)) = false := by simp; omega
            have c1 : decide ((48 : Int) ≤ (v : Int)) = false := by simp; omega
            go_wp2
            all_goals first | (have e0 : k = 0 := (by omega); have F := Lib.hid (denomB_false k hlt (by rw [HV.out]; exact okAt_zero e0 HL.out)); go_ret; rw [F.out]; exact ⟨rfl, rfl⟩) | (have F := Lib.hid (okAt_rest (j := k) (by omega) (restN_other (v := v) (by omega))); go_round; all_goals first | exact ⟨k + 1, by omega, by go_num, ok_step HQ.out HV.out F.out⟩ | (simp [intOf]; omega)) | (have hx := ‹((k : Int) == 0) = false ∧ _›; have F := Lib.hid (okAt_rest (j := k) (by simp at hx; omega) (restN_other (v := v) (by simp at hx; omega))); go_round; all_goals first | exact ⟨k + 1, by omega, by go_num, ok_step HQ.out HV.out F.out⟩ | (simp [intOf]; omega)) | (have hx := ‹((k : Int) == 0) = true ∨ _›; have F := Lib.hid (denomB_false k hlt (by rw [HV.out]; by_cases e0 : k = 0; exact okAt_zero e0 HL.out; exact okAt_not (by omega) (restN_false (by rw [HL.out]; exact Bool.false_ne_true) (by simp at hx; omega)))); go_ret; rw [F.out]; exact ⟨rfl, rfl⟩)
          · have HL := Lib.hid (show letterN v = false by unfold letterN; simp; omega)
            have b1 : decide ((97 : Int) ≤ (v : Int)) = false := by simp; omega
            have b3 : decide ((65 : Int) ≤ (v : Int)) = false := by simp; omega
            have c1 : decide ((48 : Int) ≤ (v : Int)) = true := by simp; omega
            have c2 : decide ((v : Int) ≤ 57) = true := by simp; omega
            go_wp2
            all_goals first | (have e0 : k = 0 := (by omega); have F := Lib.hid (denomB_false k hlt (by rw [HV.out]; exact okAt_zero e0 HL.out)); go_ret; rw [F.out]; exact ⟨rfl, rfl⟩) | (have F := Lib.hid (okAt_rest (j := k) (by omega) (restN_other (v := v) (by omega))); go_round; all_goals first | exact ⟨k + 1, by omega, by go_num, ok_step HQ.out HV.out F.out⟩ | (simp [intOf]; omega)) | (have hx := ‹((k : Int) == 0) = false ∧ _›; have F := Lib.hid (okAt_rest (j := k) (by simp at hx; omega) (restN_other (v := v) (by simp at hx; omega))); go_round; all_goals first | exact ⟨k + 1, by omega, by go_num, ok_step HQ.out HV.out F.out⟩ | (simp [intOf]; omega)) | (have hx := ‹((k : Int) == 0) = true ∨ _›; have F := Lib.hid (denomB_false k hlt (by rw [HV.out]; by_cases e0 : k = 0; exact okAt_zero e0 HL.out; exact okAt_not (by omega) (restN_false (by rw [HL.out]; exact Bool.false_ne_true) (by simp at hx; omega)))); go_ret; rw [F.out]; exact ⟨rfl, rfl⟩)
          · have HL := Lib.hid (show letterN v = false by unfold letterN; simp; omega)
            have b1 : decide ((97 : Int) ≤ (v : Int)) = false := by simp; omega
            have b3 : decide ((65 : Int) ≤ (v : Int)) = false := by simp; omega
            have c1 : decide ((48 : Int) ≤ (v : Int)) = true := by simp; omega
            have c2 : decide ((v : Int) ≤ 57) = false := by simp; omega
            go_wp2
            all_goals first | (have e0 : k = 0 := (by omega); have F := Lib.hid (denomB_false k hlt (by rw [HV.out]; exact okAt_zero e0 HL.out)); go_ret; rw [F.out]; exact ⟨rfl, rfl⟩) | (have F := Lib.hid (okAt_rest (j := k) (by omega) (restN_other (v := v) (by omega))); go_round; all_goals first | exact ⟨k + 1, by omega, by go_num, ok_step HQ.out HV.out F.out⟩ | (simp [intOf]; omega)) | (have hx := ‹((k : Int) == 0) = false ∧ _›; have F := Lib.hid (okAt_rest (j := k) (by simp at hx; omega) (restN_other (v := v) (by simp at hx; omega))); go_round; all_goals first | exact ⟨k + 1, by omega, by go_num, ok_step HQ.out HV.out F.out⟩ | (simp [intOf]; omega)) | (have hx := ‹((k : Int) == 0) = true ∨ _›; have F := Lib.hid (denomB_false k hlt (by rw [HV.out]; by_cases e0 : k = 0; exact okAt_zero e0 HL.out; exact okAt_not (by omega) (restN_false (by rw [HL.out]; exact Bool.false_ne_true) (by simp at hx; omega)))); go_ret; rw [F.out]; exact ⟨rfl, rfl⟩)
          · have HL := Lib.hid (show letterN v = false by unfold letterN; simp; omega)
            have b1 : decide ((97 : Int) ≤ (v : Int)) = false := by simp; omega
            have b3 : decide ((65 : Int) ≤ (v : Int)) = true := by simp; omega
            have b4 : decide ((v : Int) ≤ 90) = false := by simp; omega
            have c1 : decide ((48 : Int) ≤ (v : Int)) = true := by simp; omega
            have c2 : decide ((v : Int) ≤ 57) = false := by simp; omega
            go_wp2
            all_goals first | (have e0 : k = 0 := (by omega); have F := Lib.hid (denomB_false k hlt (by rw [HV.out]; exact okAt_zero e0 HL.out)); go_ret; rw [F.out]; exact ⟨rfl, rfl⟩) | (have F := Lib.hid (okAt_rest (j := k) (by omega) (restN_other (v := v) (by omega))); go_round; all_goals first | exact ⟨k + 1, by omega, by go_num, ok_step HQ.out HV.out F.out⟩ | (simp [intOf]; omega)) | (have hx := ‹((k : Int) == 0) = false ∧ _›; have F := Lib.hid (okAt_rest (j := k) (by simp at hx; omega) (restN_other (v := v) (by simp at hx; omega))); go_round; all_goals first | exact ⟨k + 1, by omega, by go_num, ok_step HQ.out HV.out F.out⟩ | (simp [intOf]; omega)) | (have hx := ‹((k : Int) == 0) = true ∨ _›; have F := Lib.hid (denomB_false k hlt (by rw [HV.out]; by_cases e0 : k = 0; exact okAt_zero e0 HL.out; exact okAt_not (by omega) (restN_false (by rw [HL.out]; exact Bool.false_ne_true) (by simp at hx; omega)))); go_ret; rw [F.out]; exact ⟨rfl, rfl⟩)
        · obtain rfl : k = s.size := by omega
          have F := Lib.hid (denomB_true (s := s) (by omega) (by omega) (fun j h => HQ.out j h h))
          go_wp2
          go_ret
          rw [F.out]; exact ⟨rfl, rfl⟩
end Go.Proofs.YtagfbefgcijegaaGreatDoor
