/-
  Contracts of the questions whether a text is a denomination.
  The contract of the reference's question whether a text is a denomination.
  Contracts of errors.New, of an error's text, ValidateDenom and impl.DenomErr.
-/
import Derived.Test.YtfafiahefjimdaaGreatDoorChecked
import Derived.Test.YtfafiahefjimdaaGreatDoorGA
import Derived.WalkLawsBesides
import Derived.WalkSpells
import Derived.Outline
import Derived.Handy
namespace Go.Proofs.YtfafiahefjimdaaGreatDoor
open Go Go.RowKit

def letterN (n : Nat) : Bool := decide ((97 : Int) ≤ (n : Int)) && decide ((n : Int) ≤ 122) || decide ((65 : Int) ≤ (n : Int)) && decide ((n : Int) ≤ 90)
def restN (n : Nat) : Bool := letterN n || decide ((48 : Int) ≤ (n : Int)) && decide ((n : Int) ≤ 57) || (n : Int) == 47 || (n : Int) == 58 || (n : Int) == 46 || (n : Int) == 95 || (n : Int) == 45
def okAt (j n : Nat) : Bool := if j = 0 then letterN n else restN n
/-- A denomination: a letter, and 2 to 127 letters, digits and / : . _ - behind it. -/
def denomB (s : ByteArray) : Bool := decide (3 ≤ s.size ∧ s.size ≤ 128 ∧ ∀ j, (h : j < s.size) → okAt j s[j].toNat = true)
theorem denomB_false {s : ByteArray} (j : Nat) (h : j < s.size) (hf : okAt j s[j].toNat = false) : denomB s = false := by
  unfold denomB; rw [decide_eq_false_iff_not]; rintro ⟨_, _, k⟩; rw [k j h] at hf; cases hf
theorem denomB_true {s : ByteArray} (h1 : 3 ≤ s.size) (h2 : s.size ≤ 128) (h : ∀ j, (h : j < s.size) → okAt j s[j].toNat = true) : denomB s = true := by
  unfold denomB; rw [decide_eq_true_iff]; exact ⟨h1, h2, h⟩
theorem denomB_short {s : ByteArray} (h : s.size < 3) : denomB s = false := by unfold denomB; rw [decide_eq_false_iff_not]; rintro ⟨k, _⟩; omega
theorem denomB_long {s : ByteArray} (h : 128 < s.size) : denomB s = false := by unfold denomB; rw [decide_eq_false_iff_not]; rintro ⟨_, k, _⟩; omega

theorem restN_letter {v : Nat} (h : letterN v = true) : restN v = true := by unfold restN; rw [h]; rfl
theorem restN_other {v : Nat} (h : 48 ≤ v ∧ v ≤ 57 ∨ v = 47 ∨ v = 58 ∨ v = 46 ∨ v = 95 ∨ v = 45) : restN v = true := by
  unfold restN
  rcases h with h | h | h | h | h | h
  · have a : decide ((48 : Int) ≤ (v : Int)) = true := by simp; omega
    have b : decide ((v : Int) ≤ 57) = true := by simp; omega
    rw [a, b]; simp
  all_goals subst h; simp
theorem restN_false {v : Nat} (h : ¬ letterN v = true) (k : ¬ (48 ≤ v ∧ v ≤ 57) ∧ v ≠ 47 ∧ v ≠ 58 ∧ v ≠ 46 ∧ v ≠ 95 ∧ v ≠ 45) : restN v = false := by
  unfold restN
  have hl : letterN v = false := by simpa using h
  have hd : (decide ((48 : Int) ≤ (v : Int)) && decide ((v : Int) ≤ 57)) = false := by simp; omega
  have ne : ∀ c : Nat, v ≠ c → ((v : Int) == (c : Int)) = false := fun c hc => by simp; omega
  rw [hl, hd]
  have n1 := ne 47 k.2.1
  have n2 := ne 58 k.2.2.1
  have n3 := ne 46 k.2.2.2.1
  have n4 := ne 95 k.2.2.2.2.1
  have n5 := ne 45 k.2.2.2.2.2
  simp only [Bool.false_or]
  rw [show ((v : Int) == 47) = false from n1, show ((v : Int) == 58) = false from n2, show ((v : Int) == 46) = false from n3, show ((v : Int) == 95) = false from n4, show ((v : Int) == 45) = false from n5]; rfl
theorem okAt_rest {j v : Nat} (h : 1 ≤ j) (hr : restN v = true) : okAt j v = true := by unfold okAt; rw [if_neg (by omega)]; exact hr
theorem okAt_not {j v : Nat} (h : 1 ≤ j) (hr : restN v = false) : okAt j v = false := by unfold okAt; rw [if_neg (by omega)]; exact hr
theorem ok_step {s : ByteArray} {k v : Nat} {hlt : k < s.size} (hq : ∀ j, (h : j < s.size) → j < k → okAt j s[j].toNat = true) (hv : s[k].toNat = v) (hf : okAt k v = true) :
    ∀ j, (h : j < s.size) → j < k + 1 → okAt j s[j].toNat = true := fun j hj hk => by
  by_cases e : j = k
  · subst e; rw [hv]; exact hf
  · exact hq j hj (by omega)

set_option maxRecDepth 100000 in
theorem zLetter (n : Nat) (w : World) : Calls Tryz.prog 200 #[.int .u8 n] w fun e w' => e = .returned (.bool (letterN n)) ∧ w' = w := by
  have F := Lib.hid (show letterN n = (decide ((97 : Int) ≤ (n : Int)) && decide ((n : Int) ≤ 122) || decide ((65 : Int) ≤ (n : Int)) && decide ((n : Int) ≤ 90)) from rfl)
  cases h1 : decide ((97 : Int) ≤ (n : Int)) <;> cases h2 : decide ((n : Int) ≤ 122) <;> cases h3 : decide ((65 : Int) ≤ (n : Int)) <;> cases h4 : decide ((n : Int) ≤ 90)
  all_goals
    have F' := Lib.hid F.out
    rw [h1, h2, h3, h4] at F'
    clear F
    go_enter Tryz.func200, Tryz.ntmps200
    go_wp2
    go_ret
    rw [F'.out]; exact ⟨rfl, rfl⟩

/-- The index of a text, as the walk takes it. -/
theorem idx0 (s : ByteArray) (h : 0 < s.size) : ∃ v : Nat, s[0].toNat = v := ⟨_, rfl⟩

set_option maxRecDepth 100000 in
set_option maxHeartbeats 1000000 in
theorem zDenom (s : ByteArray) (w : World) (hs : s.size ≤ 9223372036854775807) : Calls Tryz.prog 151 #[.string s] w fun e w' => e = .returned (.bool (denomB s)) ∧ w' = w := by
  by_cases h1 : s.size < 3
  · have F := Lib.hid (denomB_short h1)
    have d1 : decide (s.size < 3) = true := by simpa using h1
    go_enter Tryz.func151, Tryz.ntmps151
    go_wp2
    go_ret
    rw [F.out]; exact ⟨rfl, rfl⟩
  · by_cases h2 : 128 < s.size
    · have F := Lib.hid (denomB_long h2)
      have d1 : decide (s.size < 3) = false := by simpa using h1
      have d2 : decide (128 < s.size) = true := by simpa using h2
      go_enter Tryz.func151, Tryz.ntmps151
      go_wp2
      go_ret
      rw [F.out]; exact ⟨rfl, rfl⟩
    · have d1 : decide (s.size < 3) = false := by simpa using h1
      have d2 : decide (128 < s.size) = false := by simpa using h2
      have h0 : 0 < s.size := by omega
      obtain ⟨n, hn⟩ : ∃ n : Nat, n = s[0].toNat := ⟨_, rfl⟩
      have hrun : ∀ W, (Instr.index 9 (.string s) (.int .i64 0)).run Tryz.prog W = .ok (.int .u8 (n : Int)) W := fun W => by subst hn; simp [go_sem, h0]
      have hok0 : okAt 0 n = letterN n := rfl
      have HN := Lib.hid hn; clear hn
      cases hL : letterN n
      · have F := Lib.hid (denomB_false 0 h0 (show okAt 0 s[0].toNat = false by rw [← HN.out, hok0, hL]))
        clear hok0
        go_enter Tryz.func151, Tryz.ntmps151
        go_wp2_with (go_at_call 200; refine (zLetter n _).mono ?_; rintro e w' ⟨rfl, rfl⟩)
        go_ret
        rw [F.out]; exact ⟨rfl, rfl⟩
      · have F0 := Lib.hid (show okAt 0 s[0].toNat = true by rw [← HN.out, hok0, hL])
        clear hok0
        go_enter Tryz.func151, Tryz.ntmps151
        go_wp2_with (go_at_call 200; refine (zLetter n _).mono ?_; rintro e w' ⟨rfl, rfl⟩)
        go_loop [3] (fun i => ∃ k : Nat, 1 ≤ k ∧ k ≤ s.size ∧ i = .int .i64 k ∧ ∀ j, (h : j < s.size) → j < k → okAt j s[j].toNat = true) (fun i => s.size - (intOf i).toNat)
        case atStart => exact ⟨1, Nat.le_refl _, by omega, rfl, fun j hj h => by
          obtain rfl : j = 0 := by omega
          exact F0.out⟩
        case round =>
          obtain ⟨k, hk1, hk, rfl, hq⟩ := hrel
          have HQ := Lib.hid hq; clear hq
          by_cases hlt : k < s.size
          · obtain ⟨v, hv⟩ : ∃ v : Nat, s[k].toNat = v := ⟨_, rfl⟩
            have hrunk : ∀ W, (Instr.index 9 (.string s) (.int .i64 (k : Int))).run Tryz.prog W = .ok (.int .u8 (v : Int)) W := fun W => by subst hv; simp [go_sem, hlt]
            have HV := Lib.hid hv; clear hv
            go_wp2_with (go_at_call 200; refine (zLetter v _).mono ?_; rintro e w' ⟨rfl, rfl⟩)
            all_goals first | (have hx : letterN v = true := (by assumption); have F := Lib.hid (okAt_rest hk1 (restN_letter hx)); go_round; all_goals first | exact ⟨k + 1, by omega, by omega, by go_num, ok_step HQ.out HV.out F.out⟩ | (simp [intOf]; omega)) | (have F := Lib.hid (okAt_rest hk1 (restN_other (v := v) (by omega))); go_round; all_goals first | exact ⟨k + 1, by omega, by omega, by go_num, ok_step HQ.out HV.out F.out⟩ | (simp [intOf]; omega)) | (have hx := ‹_ ∨ ((v : Int) != 45) = false›; have F := Lib.hid (okAt_rest hk1 (restN_other (v := v) (by simp at hx; omega))); go_round; all_goals first | exact ⟨k + 1, by omega, by omega, by go_num, ok_step HQ.out HV.out F.out⟩ | (simp [intOf]; omega)) | (have hx := ‹_ ∧ ((v : Int) != 45) = true›; have hy : ¬ letterN v = true := (by assumption); have F := Lib.hid (denomB_false k hlt (by rw [HV.out]; exact okAt_not hk1 (restN_false (v := v) hy (by simp at hx; omega)))); go_ret; rw [F.out]; exact ⟨rfl, rfl⟩)
          · obtain rfl : k = s.size := by omega
            have F := Lib.hid (denomB_true (s := s) (by omega) (by omega) (fun j h => HQ.out j h h))
            go_wp2
            go_ret
            rw [F.out]; exact ⟨rfl, rfl⟩
end Go.Proofs.YtfafiahefjimdaaGreatDoor

namespace Go.Proofs.YtfafiahefjimdaaGreatDoor
open Go Go.RowKit

theorem okAt_letter {j v : Nat} (h : letterN v = true) : okAt j v = true := by unfold okAt; split; exact h; exact restN_letter h
theorem okAt_zero {j v : Nat} (hj : j = 0) (h : letterN v = false) : okAt j v = false := by unfold okAt; rw [if_pos hj]; exact h

set_option maxRecDepth 100000 in
set_option maxHeartbeats 2000000 in
theorem sDenom (s : ByteArray) (w : World) (hs : s.size ≤ 9223372036854775807) : Calls Tryz.prog 47 #[.string s] w fun e w' => e = .returned (.bool (denomB s)) ∧ w' = w := by
  by_cases h1 : s.size < 3
  · have F := Lib.hid (denomB_short h1)
    have d1 : decide (s.size < 3) = true := by simpa using h1
    go_enter Tryz.func47, Tryz.ntmps47
    go_wp2
    go_ret
    rw [F.out]; exact ⟨rfl, rfl⟩
  · by_cases h2 : 128 < s.size
    · have F := Lib.hid (denomB_long h2)
      have d1 : decide (s.size < 3) = false := by simpa using h1
      have d2 : decide (128 < s.size) = true := by simpa using h2
      go_enter Tryz.func47, Tryz.ntmps47
      go_wp2
      go_ret
      rw [F.out]; exact ⟨rfl, rfl⟩
    · have d1 : decide (s.size < 3) = false := by simpa using h1
      have d2 : decide (128 < s.size) = false := by simpa using h2
      go_enter Tryz.func47, Tryz.ntmps47
      go_wp2
      go_loop [16] (fun i => ∃ k : Nat, k ≤ s.size ∧ i = .int .i64 k ∧ ∀ j, (h : j < s.size) → j < k → okAt j s[j].toNat = true) (fun i => s.size - (intOf i).toNat)
      case atStart => exact ⟨0, Nat.zero_le _, rfl, fun j hj h => by omega⟩
      case round =>
        obtain ⟨k, hk, rfl, hq⟩ := hrel
        have HQ := Lib.hid hq; clear hq
        by_cases hlt : k < s.size
        · obtain ⟨v, hv⟩ : ∃ v : Nat, s[k].toNat = v := ⟨_, rfl⟩
          have hrunk : ∀ W, (Instr.index 9 (.string s) (.int .i64 (k : Int))).run Tryz.prog W = .ok (.int .u8 (v : Int)) W := fun W => by subst hv; simp [go_sem, hlt]
          have HV := Lib.hid hv; clear hv
          rcases (show (97 ≤ v ∧ v ≤ 122 ∨ 65 ≤ v ∧ v ≤ 90) ∨ 122 < v ∨ v < 48 ∨ 48 ≤ v ∧ v ≤ 57 ∨ 57 < v ∧ v < 65 ∨ 90 < v ∧ v < 97 by omega) with hc | hc | hc | hc | hc | hc
          · have F := Lib.hid (okAt_letter (j := k) (v := v) (by unfold letterN; rcases hc with ⟨a, b⟩ | ⟨a, b⟩ <;> simp <;> omega))
            rcases hc with ⟨a, b⟩ | ⟨a, b⟩
            · have b1 : decide ((97 : Int) ≤ (v : Int)) = true := by simp; omega
              have b2 : decide ((v : Int) ≤ 122) = true := by simp; omega
              go_wp2
              go_round
              · exact ⟨k + 1, by omega, by go_num, ok_step HQ.out HV.out F.out⟩
              · simp [intOf]; omega
            · have b1 : decide ((97 : Int) ≤ (v : Int)) = false := by simp; omega
              have b3 : decide ((65 : Int) ≤ (v : Int)) = true := by simp; omega
              have b4 : decide ((v : Int) ≤ 90) = true := by simp; omega
              go_wp2
              go_round
              · exact ⟨k + 1, by omega, by go_num, ok_step HQ.out HV.out F.out⟩
              · simp [intOf]; omega
          · have HL := Lib.hid (show letterN v = false by unfold letterN; simp; omega)
            have b1 : decide ((97 : Int) ≤ (v : Int)) = true := by simp; omega
            have b2 : decide ((v : Int) ≤ 122) = false := by simp; omega
            have b3 : decide ((65 : Int) ≤ (v : Int)) = true := by simp; omega
            have b4 : decide ((v : Int) ≤ 90) = false := by simp; omega
            have c1 : decide ((48 : Int) ≤ (v : Int)) = true := by simp; omega
            have c2 : decide ((v : Int) ≤ 57) = false := by simp; omega
            go_wp2
            all_goals first | (have e0 : k = 0 := (by omega); have F := Lib.hid (denomB_false k hlt (by rw [HV.out]; exact okAt_zero e0 HL.out)); go_ret; rw [F.out]; exact ⟨rfl, rfl⟩) | (have F := Lib.hid (okAt_rest (j := k) (by omega) (restN_other (v := v) (by omega))); go_round; all_goals first | exact ⟨k + 1, by omega, by go_num, ok_step HQ.out HV.out F.out⟩ | (simp [intOf]; omega)) | (have hx := ‹((k : Int) == 0) = false ∧ _›; have F := Lib.hid (okAt_rest (j := k) (by simp at hx; omega) (restN_other (v := v) (by simp at hx; omega))); go_round; all_goals first | exact ⟨k + 1, by omega, by go_num, ok_step HQ.out HV.out F.out⟩ | (simp [intOf]; omega)) | (have hx := ‹((k : Int) == 0) = true ∨ _›; have F := Lib.hid (denomB_false k hlt (by rw [HV.out]; by_cases e0 : k = 0; exact okAt_zero e0 HL.out; exact okAt_not (by omega) (restN_false (by rw [HL.out]; exact Bool.false_ne_true) (by simp at hx; omega)))); go_ret; rw [F.out]; exact ⟨rfl, rfl⟩)
          · have HL := Lib.hid (show letterN v = false by unfold letterN; simp; omega)
            have b1 : decide ((97 : Int) ≤ (v : Int)) = false := by simp; omega
            have b3 : decide ((65 : Int) ≤ (v : Int)) = false := by simp; omega
            have c1 : decide ((48 : Int) ≤ (v : Int)) = false := by simp; omega
            go_wp2
            all_goals first | (have e0 : k = 0 := (by omega); have F := Lib.hid (denomB_false k hlt (by rw [HV.out]; exact okAt_zero e0 HL.out)); go_ret; rw [F.out]; exact ⟨rfl, rfl⟩) | (have F := Lib.hid (okAt_rest (j := k) (by omega) (restN_other (v := v) (by omega))); go_round; all_goals first | exact ⟨k + 1, by omega, by go_num, ok_step HQ.out HV.out F.out⟩ | (simp [intOf]; omega)) | (have hx := ‹((k : Int) == 0) = false ∧ _›; have F := Lib.hid (okAt_rest (j := k) (by simp at hx; omega) (restN_other (v := v) (by simp at hx; omega))); go_round; all_goals first | exact ⟨k + 1, by omega, by go_num, ok_step HQ.out HV.out F.out⟩ | (simp [intOf]; omega)) | (have hx := ‹((k : Int) == 0) = true ∨ _›; have F := Lib.hid (denomB_false k hlt (by rw [HV.out]; by_cases e0 : k = 0; exact okAt_zero e0 HL.out; exact okAt_not (by omega) (restN_false (by rw [HL.out]; exact Bool.false_ne_true) (by simp at hx; omega)))); go_ret; rw [F.out]; exact ⟨rfl, rfl⟩)
          · have HL := Lib.hid (show letterN v = false by unfold letterN; simp; omega)
            have b1 : decide ((97 : Int) ≤ (v : Int)) = false := by simp; omega
            have b3 : decide ((65 : Int) ≤ (v : Int)) = false := by simp; omega
            have c1 : decide ((48 : Int) ≤ (v : Int)) = true := by simp; omega
            have c2 : decide ((v : Int) ≤ 57) = true := by simp; omega
            go_wp2
            all_goals first | (have e0 : k = 0 := (by omega); have F := Lib.hid (denomB_false k hlt (by rw [HV.out]; exact okAt_zero e0 HL.out)); go_ret; rw [F.out]; exact ⟨rfl, rfl⟩) | (have F := Lib.hid (okAt_rest (j := k) (by omega) (restN_other (v := v) (by omega))); go_round; all_goals first | exact ⟨k + 1, by omega, by go_num, ok_step HQ.out HV.out F.out⟩ | (simp [intOf]; omega)) | (have hx := ‹((k : Int) == 0) = false ∧ _›; have F := Lib.hid (okAt_rest (j := k) (by simp at hx; omega) (restN_other (v := v) (by simp at hx; omega))); go_round; all_goals first | exact ⟨k + 1, by omega, by go_num, ok_step HQ.out HV.out F.out⟩ | (simp [intOf]; omega)) | (have hx := ‹((k : Int) == 0) = true ∨ _›; have F := Lib.hid (denomB_false k hlt (by rw [HV.out]; by_cases e0 : k = 0; exact okAt_zero e0 HL.out; exact okAt_not (by omega) (restN_false (by rw [HL.out]; exact Bool.false_ne_true) (by simp at hx; omega)))); go_ret; rw [F.out]; exact ⟨rfl, rfl⟩)
          · have HL := Lib.hid (show letterN v = false by unfold letterN; simp; omega)
            have b1 : decide ((97 : Int) ≤ (v : Int)) = false := by simp; omega
            have b3 : decide ((65 : Int) ≤ (v : Int)) = false := by simp; omega
            have c1 : decide ((48 : Int) ≤ (v : Int)) = true := by simp; omega
            have c2 : decide ((v : Int) ≤ 57) = false := by simp; omega
            go_wp2
            all_goals first | (have e0 : k = 0 := (by omega); have F := Lib.hid (denomB_false k hlt (by rw [HV.out]; exact okAt_zero e0 HL.out)); go_ret; rw [F.out]; exact ⟨rfl, rfl⟩) | (have F := Lib.hid (okAt_rest (j := k) (by omega) (restN_other (v := v) (by omega))); go_round; all_goals first | exact ⟨k + 1, by omega, by go_num, ok_step HQ.out HV.out F.out⟩ | (simp [intOf]; omega)) | (have hx := ‹((k : Int) == 0) = false ∧ _›; have F := Lib.hid (okAt_rest (j := k) (by simp at hx; omega) (restN_other (v := v) (by simp at hx; omega))); go_round; all_goals first | exact ⟨k + 1, by omega, by go_num, ok_step HQ.out HV.out F.out⟩ | (simp [intOf]; omega)) | (have hx := ‹((k : Int) == 0) = true ∨ _›; have F := Lib.hid (denomB_false k hlt (by rw [HV.out]; by_cases e0 : k = 0; exact okAt_zero e0 HL.out; exact okAt_not (by omega) (restN_false (by rw [HL.out]; exact Bool.false_ne_true) (by simp at hx; omega)))); go_ret; rw [F.out]; exact ⟨rfl, rfl⟩)
          · have HL := Lib.hid (show letterN v = false by unfold letterN; simp; omega)
            have b1 : decide ((97 : Int) ≤ (v : Int)) = false := by simp; omega
            have b3 : decide ((65 : Int) ≤ (v : Int)) = true := by simp; omega
            have b4 : decide ((v : Int) ≤ 90) = false := by simp; omega
            have c1 : decide ((48 : Int) ≤ (v : Int)) = true := by simp; omega
            have c2 : decide ((v : Int) ≤ 57) = false := by simp; omega
            go_wp2
            all_goals first | (have e0 : k = 0 := (by omega); have F := Lib.hid (denomB_false k hlt (by rw [HV.out]; exact okAt_zero e0 HL.out)); go_ret; rw [F.out]; exact ⟨rfl, rfl⟩) | (have F := Lib.hid (okAt_rest (j := k) (by omega) (restN_other (v := v) (by omega))); go_round; all_goals first | exact ⟨k + 1, by omega, by go_num, ok_step HQ.out HV.out F.out⟩ | (simp [intOf]; omega)) | (have hx := ‹((k : Int) == 0) = false ∧ _›; have F := Lib.hid (okAt_rest (j := k) (by simp at hx; omega) (restN_other (v := v) (by simp at hx; omega))); go_round; all_goals first | exact ⟨k + 1, by omega, by go_num, ok_step HQ.out HV.out F.out⟩ | (simp [intOf]; omega)) | (have hx := ‹((k : Int) == 0) = true ∨ _›; have F := Lib.hid (denomB_false k hlt (by rw [HV.out]; by_cases e0 : k = 0; exact okAt_zero e0 HL.out; exact okAt_not (by omega) (restN_false (by rw [HL.out]; exact Bool.false_ne_true) (by simp at hx; omega)))); go_ret; rw [F.out]; exact ⟨rfl, rfl⟩)
        · obtain rfl : k = s.size := by omega
          have F := Lib.hid (denomB_true (s := s) (by omega) (by omega) (fun j h => HQ.out j h h))
          go_wp2
          go_ret
          rw [F.out]; exact ⟨rfl, rfl⟩
end Go.Proofs.YtfafiahefjimdaaGreatDoor

namespace Go.Proofs.YtfafiahefjimdaaGreatDoor
open Go Go.RowKit

/-- An error of errors.New. -/
def errV (b : Nat) : Value := .iface 236 (.pointer (some ⟨b, 0, none⟩))
def RetErr (s : ByteArray) (w : World) (e : Ending) (w' : World) : Prop := ∃ b, e = .returned (.iface 236 (.pointer (some ⟨b, 0, none⟩))) ∧ Blk w' b 238 [.string s] ∧ Ext w w'

set_option maxRecDepth 100000 in
theorem eNew (s : ByteArray) (w : World) : Calls Tryz.prog 148 #[.string s] w (RetErr s w) := by
  go_enter Tryz.func148, Tryz.ntmps148
  go_wp2
  go_ret
  exact ⟨_, rfl, Blk.new _ _ _, Ext.alloc' _ _⟩

set_option maxRecDepth 100000 in
theorem eError (s : ByteArray) (b : Nat) (w : World) (h : Blk w b 238 [.string s]) : Calls Tryz.prog 437 #[.pointer (some ⟨b, 0, none⟩)] w fun e w' => e = .returned (.string s) ∧ w' = w := by
  have c0 : w.cell? ⟨b, 0, none⟩ = some (.string s) := (h.cell 0).trans rfl
  clear h
  go_enter Tryz.func437, Tryz.ntmps437
  go_wp2
  go_ret
  exact ⟨rfl, rfl⟩

set_option maxRecDepth 100000 in
theorem iWordNil (w : World) : Calls Tryz.prog 106 #[.nilIface] w fun e w' => e = .returned (.string ⟨#[]⟩) ∧ w' = w := by
  go_enter Tryz.func106, Tryz.ntmps106
  go_wp2
  go_ret
  exact ⟨rfl, rfl⟩

set_option maxRecDepth 100000 in
theorem iWordErr (s : ByteArray) (b : Nat) (w : World) (h : Blk w b 238 [.string s]) : Calls Tryz.prog 106 #[.iface 236 (.pointer (some ⟨b, 0, none⟩))] w fun e w' => e = .returned (.string s) ∧ w' = w := by
  have H := Lib.hid (eError s b w h); clear h
  go_enter Tryz.func106, Tryz.ntmps106
  go_wp2_with (first | (go_at_call 437; (with_reducible refine H.out.mono ?_); rintro e w' ⟨rfl, rfl⟩))
  go_ret
  exact ⟨rfl, rfl⟩

/-- "invalid denom". -/
abbrev invDenom : ByteArray := ⟨#[105, 110, 118, 97, 108, 105, 100, 32, 100, 101, 110, 111, 109]⟩

/-- No error, or this one. -/
def RetValid (r : Bool) (w : World) (e : Ending) (w' : World) : Prop := (r = true ∧ e = .returned .nilIface ∧ w' = w) ∨ (r = false ∧ RetErr invDenom w e w')

set_option maxRecDepth 100000 in
theorem tValid (s : ByteArray) (w : World) (hs : s.size ≤ 9223372036854775807) : Calls Tryz.prog 91 #[.string s] w
    (RetValid (denomB s) w) := by
  have H := Lib.hid (zDenom s w hs)
  obtain ⟨r, hr⟩ : ∃ r, r = denomB s := ⟨_, rfl⟩
  rw [← hr] at H ⊢
  clear hr
  cases r
  · go_enter Tryz.func91, Tryz.ntmps91
    go_wp2_with (first | (go_at_call 151; (with_reducible refine H.out.mono ?_); rintro e w' ⟨rfl, rfl⟩) | (go_at_call 148; refine (eNew invDenom _).mono ?_; rintro e w' ⟨b, rfl, hB, hE⟩; have HB := Lib.hid hB; have HE := Lib.hid hE; clear hB hE))
    go_ret
    exact Or.inr ⟨rfl, b, rfl, HB.out, HE.out⟩
  · go_enter Tryz.func91, Tryz.ntmps91
    go_wp2_with (first | (go_at_call 151; (with_reducible refine H.out.mono ?_); rintro e w' ⟨rfl, rfl⟩))
    go_ret
    exact Or.inl ⟨rfl, rfl, rfl⟩

/-- The words of ValidateDenom's error. -/
def denomWord (s : ByteArray) : ByteArray := if denomB s then ⟨#[]⟩ else invDenom

set_option maxRecDepth 100000 in
theorem iDenomErr (s : ByteArray) (w : World) (hs : s.size ≤ 9223372036854775807) : Calls Tryz.prog 110 #[.string s] w (RetE (.string (denomWord s)) w) := by
  have H := Lib.hid (tValid s w hs)
  obtain ⟨r, hr⟩ : ∃ r, r = denomB s := ⟨_, rfl⟩
  have F := Lib.hid hr
  rw [← hr] at H
  unfold denomWord
  rw [← hr]
  clear hr
  cases r
  · have H2 := Lib.hid (show Calls Tryz.prog 91 #[.string s] w (RetErr invDenom w) from H.out.mono (by rintro e w' (⟨h, _⟩ | ⟨_, h⟩); cases h; exact h))
    go_enter Tryz.func110, Tryz.ntmps110
    go_wp2_with (first | (go_at_call 91; (with_reducible refine H2.out.mono ?_); rintro e w' ⟨b, rfl, hB, hE⟩; have HB := Lib.hid hB; have HE := Lib.hid hE; clear hB hE) | (go_at_call 106; refine (iWordErr invDenom b _ HB.out).mono ?_; rintro e w' ⟨rfl, rfl⟩))
    go_ret
    exact ⟨rfl, HE.out⟩
  · have H2 := Lib.hid (show Calls Tryz.prog 91 #[.string s] w (fun e w' => e = .returned .nilIface ∧ w' = w) from H.out.mono (by rintro e w' (⟨_, h⟩ | ⟨h, _⟩); exact h; cases h))
    go_enter Tryz.func110, Tryz.ntmps110
    go_wp2_with (first | (go_at_call 91; (with_reducible refine H2.out.mono ?_); rintro e w' ⟨rfl, rfl⟩) | (go_at_call 106; refine (iWordNil _).mono ?_; rintro e w' ⟨rfl, rfl⟩))
    go_ret
    exact ⟨rfl, Ext.refl _⟩
end Go.Proofs.YtfafiahefjimdaaGreatDoor
