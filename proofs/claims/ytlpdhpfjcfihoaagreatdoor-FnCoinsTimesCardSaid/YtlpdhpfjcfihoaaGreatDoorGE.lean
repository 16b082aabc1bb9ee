/-
  Contracts of the questions whether a text is a denomination.
  The contract of the reference's question whether a text is a denomination.
  Contracts of errors.New, of an error's text, ValidateDenom and impl.DenomErr.
  The contract of the laws' sumAwake: it returns true.
  Contracts of the laws' sizes, and of the reference's IsSumList.
  Contracts of the reference's SumSame and SumWithout.
  What the laws' walks share: lists handed back read as arguments; what the reference's guards tell.
-/
import Derived.Test.YtlpdhpfjcfihoaaGreatDoorChecked
import Derived.Test.YtlpdhpfjcfihoaaGreatDoorGA
import Derived.WalkLawsBesides
import Derived.WalkSpells
import Derived.Outline
import Derived.Handy
import Derived.Test.YtlpdhpfjcfihoaaGreatDoorGD
import Derived.Test.YtlpdhpfjcfihoaaGreatDoorGC
import Derived.BigQuiet
namespace Go.Proofs.YtlpdhpfjcfihoaaGreatDoor
open Go Go.RowKit

def letterN (n : Nat) : Bool := decide ((97 : Int) ≤ (n : Int)) && decide ((n : Int) ≤ 122) || decide ((65 : Int) ≤ (n : Int)) && decide ((n : Int) ≤ 90)
def restN (n : Nat) : Bool := letterN n || decide ((48 : Int) ≤ (n : Int)) && decide ((n : Int) ≤ 57) || (n : Int) == 47 || (n : Int) == 58 || (n : Int) == 46 || (n : Int) == 95 || (n : Int) == 45
def okAt (j n : Nat) : Bool := if j = 0 then letterN n else restN n
/-- A denomination: a letter, and 2 to 127 letters, digits and / : . _ - behind it. -/
def denomB (s : ByteArray) : Bool := decide (3 ≤ s.size ∧ s.size ≤ 128 ∧ ∀ j, (h : j < s.size) → okAt j s[j].toNat = true)
theorem denomB_false {s : ByteArray} (j : Nat) (h : j < s.size) (hf : okAt j s[j].toNat = false) : denomB s = false := by
  unfold denomB; rw [decide_eq_false_iff_not]; rintro ⟨_, _, k⟩; rw [k j h] at hf; cases hf
theorem denomB_true {s : ByteArray} (h1 : 3 ≤ s.size) (h2 : s.size ≤ 128) (h : ∀ j, (h : j < s.size) → okAt j s[j].toNat = true) : denomB s = true := by
  unfold denomB; rw [decide_eq_true_iff]; exact ⟨h1, h2, h⟩
theorem denomB_short {s : ByteArray} (h : s.size < 3) : denomB s = false := by unfold denomB; rw [decide_eq_false_iff_not]; rintro ⟨k, _⟩; omega
theorem denomB_long {s : ByteArray} (h : 128 < s.size) : denomB s = false := by unfold denomB; rw [decide_eq_false_iff_not]; rintro ⟨_, k, _⟩; omega

theorem restN_letter {v : Nat} (h : letterN v = true) : restN v = true := by unfold restN; rw [h]; rfl
theorem restN_other {v : Nat} (h : 48 ≤ v ∧ v ≤ 57 ∨ v = 47 ∨ v = 58 ∨ v = 46 ∨ v = 95 ∨ v = 45) : restN v = true := by
  unfold restN
  rcases h with h | h | h | h | h | h
  · have a : decide ((48 : Int) ≤ (v : Int)) = true := by simp; omega
    have b : decide ((v : Int) ≤ 57) = true := by simp; omega
    rw [a, b]; simp
  all_goals subst h; simp
theorem restN_false {v : Nat} (h : ¬ letterN v = true) (k : ¬ (48 ≤ v ∧ v ≤ 57) ∧ v ≠ 47 ∧ v ≠ 58 ∧ v ≠ 46 ∧ v ≠ 95 ∧ v ≠ 45) : restN v = false := by
  unfold restN
  have hl : letterN v = false := by simpa using h
  have hd : (decide ((48 : Int) ≤ (v : Int)) && decide ((v : Int) ≤ 57)) = false := by simp; omega
  have ne : ∀ c : Nat, v ≠ c → ((v : Int) == (c : Int)) = false := fun c hc => by simp; omega
  rw [hl, hd]
  have n1 := ne 47 k.2.1
  have n2 := ne 58 k.2.2.1
  have n3 := ne 46 k.2.2.2.1
  have n4 := ne 95 k.2.2.2.2.1
  have n5 := ne 45 k.2.2.2.2.2
  simp only [Bool.false_or]
  rw [show ((v : Int) == 47) = false from n1, show ((v : Int) == 58) = false from n2, show ((v : Int) == 46) = false from n3, show ((v : Int) == 95) = false from n4, show ((v : Int) == 45) = false from n5]; rfl
theorem okAt_rest {j v : Nat} (h : 1 ≤ j) (hr : restN v = true) : okAt j v = true := by unfold okAt; rw [if_neg (by omega)]; exact hr
theorem okAt_not {j v : Nat} (h : 1 ≤ j) (hr : restN v = false) : okAt j v = false := by unfold okAt; rw [if_neg (by omega)]; exact hr
theorem ok_step {s : ByteArray} {k v : Nat} {hlt : k < s.size} (hq : ∀ j, (h : j < s.size) → j < k → okAt j s[j].toNat = true) (hv : s[k].toNat = v) (hf : okAt k v = true) :
    ∀ j, (h : j < s.size) → j < k + 1 → okAt j s[j].toNat = true := fun j hj hk => by
  by_cases e : j = k
  · subst e; rw [hv]; exact hf
  · exact hq j hj (by omega)

set_option maxRecDepth 100000 in
theorem zLetter (n : Nat) (w : World) : Calls Tryz.prog 195 #[.int .u8 n] w fun e w' => e = .returned (.bool (letterN n)) ∧ w' = w := by
  have F := Lib.hid (show letterN n = (decide ((97 : Int) ≤ (n : Int)) && decide ((n : Int) ≤ 122) || decide ((65 : Int) ≤ (n : Int)) && decide ((n : Int) ≤ 90)) from rfl)
  cases h1 : decide ((97 : Int) ≤ (n : Int)) <;> cases h2 : decide ((n : Int) ≤ 122) <;> cases h3 : decide ((65 : Int) ≤ (n : Int)) <;> cases h4 : decide ((n : Int) ≤ 90)
  all_goals
    have F' := Lib.hid F.out
    rw [h1, h2, h3, h4] at F'
    clear F
    go_enter Tryz.func195, Tryz.ntmps195
    go_wp2
    go_ret
    rw [F'.out]; exact ⟨rfl, rfl⟩

/-- The index of a text, as the walk takes it. -/
theorem idx0 (s : ByteArray) (h : 0 < s.size) : ∃ v : Nat, s[0].toNat = v := ⟨_, rfl⟩

set_option maxRecDepth 100000 in
set_option maxHeartbeats 1000000 in
theorem zDenom (s : ByteArray) (w : World) (hs : s.size ≤ 9223372036854775807) : Calls Tryz.prog 162 #[.string s] w fun e w' => e = .returned (.bool (denomB s)) ∧ w' = w := by
  by_cases h1 : s.size < 3
  · have F := Lib.hid (denomB_short h1)
    have d1 : decide (s.size < 3) = true := by simpa using h1
    go_enter Tryz.func162, Tryz.ntmps162
    go_wp2
    go_ret
    rw [F.out]; exact ⟨rfl, rfl⟩
  · by_cases h2 : 128 < s.size
    · have F := Lib.hid (denomB_long h2)
      have d1 : decide (s.size < 3) = false := by simpa using h1
      have d2 : decide (128 < s.size) = true := by simpa using h2
      go_enter Tryz.func162, Tryz.ntmps162
      go_wp2
      go_ret
      rw [F.out]; exact ⟨rfl, rfl⟩
    · have d1 : decide (s.size < 3) = false := by simpa using h1
      have d2 : decide (128 < s.size) = false := by simpa using h2
      have h0 : 0 < s.size := by omega
      obtain ⟨n, hn⟩ : ∃ n : Nat, n = s[0].toNat := ⟨_, rfl⟩
      have hrun : ∀ W, (Instr.index 9 (.string s) (.int .i64 0)).run Tryz.prog W = .ok (.int .u8 (n : Int)) W := fun W => by subst hn; simp [go_sem, h0]
      have hok0 : okAt 0 n = letterN n := rfl
      have HN := Lib.hid hn; clear hn
      cases hL : letterN n
      · have F := Lib.hid (denomB_false 0 h0 (show okAt 0 s[0].toNat = false by rw [← HN.out, hok0, hL]))
        clear hok0
        go_enter Tryz.func162, Tryz.ntmps162
        go_wp2_with (go_at_call 195; refine (zLetter n _).mono ?_; rintro e w' ⟨rfl, rfl⟩)
        go_ret
        rw [F.out]; exact ⟨rfl, rfl⟩
      · have F0 := Lib.hid (show okAt 0 s[0].toNat = true by rw [← HN.out, hok0, hL])
        clear hok0
        go_enter Tryz.func162, Tryz.ntmps162
        go_wp2_with (go_at_call 195; refine (zLetter n _).mono ?_; rintro e w' ⟨rfl, rfl⟩)
        go_loop [3] (fun i => ∃ k : Nat, 1 ≤ k ∧ k ≤ s.size ∧ i = .int .i64 k ∧ ∀ j, (h : j < s.size) → j < k → okAt j s[j].toNat = true) (fun i => s.size - (intOf i).toNat)
        case atStart => exact ⟨1, Nat.le_refl _, by omega, rfl, fun j hj h => by
          obtain rfl : j = 0 := by omega
          exact F0.out⟩
        case round =>
          obtain ⟨k, hk1, hk, rfl, hq⟩ := hrel
          have HQ := Lib.hid hq; clear hq
          by_cases hlt : k < s.size
          · obtain ⟨v, hv⟩ : ∃ v : Nat, s[k].toNat = v := ⟨_, rfl⟩
            have hrunk : ∀ W, (Instr.index 9 (.string s) (.int .i64 (k : Int))).run Tryz.prog W = .ok (.int .u8 (v : Int)) W := fun W => by subst hv; simp [go_sem, hlt]
            have HV := Lib.hid hv; clear hv
            go_wp2_with (go_at_call 195; refine (zLetter v _).mono ?_; rintro e w' ⟨rfl, rfl⟩)
            all_goals first | (have hx : letterN v = true := (by assumption); have F := Lib.hid (okAt_rest hk1 (restN_letter hx)); go_round; all_goals first | exact ⟨k + 1, by omega, by omega, by go_num, ok_step HQ.out HV.out F.out⟩ | (simp [intOf]; omega)) | (have F := Lib.hid (okAt_rest hk1 (restN_other (v := v) (by omega))); go_round; all_goals first | exact ⟨k + 1, by omega, by omega, by go_num, ok_step HQ.out HV.out F.out⟩ | (simp [intOf]; omega)) | (have hx := ‹_ ∨ ((v : Int) != 45) = false›; have F := Lib.hid (okAt_rest hk1 (restN_other (v := v) (by simp at hx; omega))); go_round; all_goals first | exact ⟨k + 1, by omega, by omega, by go_num, ok_step HQ.out HV.out F.out⟩ | (simp [intOf]; omega)) | (have hx := ‹_ ∧ ((v : Int) != 45) = true›; have hy : ¬ letterN v = true := (by assumption); have F := Lib.hid (denomB_false k hlt (by rw [HV.out]; exact okAt_not hk1 (restN_false (v := v) hy (by simp at hx; omega)))); go_ret; rw [F.out]; exact ⟨rfl, rfl⟩)
          · obtain rfl : k = s.size := by omega
            have F := Lib.hid (denomB_true (s := s) (by omega) (by omega) (fun j h => HQ.out j h h))
            go_wp2
            go_ret
            rw [F.out]; exact ⟨rfl, rfl⟩
end Go.Proofs.YtlpdhpfjcfihoaaGreatDoor

namespace Go.Proofs.YtlpdhpfjcfihoaaGreatDoor
open Go Go.RowKit

theorem okAt_letter {j v : Nat} (h : letterN v = true) : okAt j v = true := by unfold okAt; split; exact h; exact restN_letter h
theorem okAt_zero {j v : Nat} (hj : j = 0) (h : letterN v = false) : okAt j v = false := by unfold okAt; rw [if_pos hj]; exact h

set_option maxRecDepth 100000 in
set_option maxHeartbeats 2000000 in
theorem sDenom (s : ByteArray) (w : World) (hs : s.size ≤ 9223372036854775807) : Calls Tryz.prog 108 #[.string s] w fun e w' => e = .returned (.bool (denomB s)) ∧ w' = w := by
  by_cases h1 : s.size < 3
  · have F := Lib.hid (denomB_short h1)
    have d1 : decide (s.size < 3) = true := by simpa using h1
    go_enter Tryz.func108, Tryz.ntmps108
    go_wp2
    go_ret
    rw [F.out]; exact ⟨rfl, rfl⟩
  · by_cases h2 : 128 < s.size
    · have F := Lib.hid (denomB_long h2)
      have d1 : decide (s.size < 3) = false := by simpa using h1
      have d2 : decide (128 < s.size) = true := by simpa using h2
      go_enter Tryz.func108, Tryz.ntmps108
      go_wp2
      go_ret
      rw [F.out]; exact ⟨rfl, rfl⟩
    · have d1 : decide (s.size < 3) = false := by simpa using h1
      have d2 : decide (128 < s.size) = false := by simpa using h2
      go_enter Tryz.func108, Tryz.ntmps108
      go_wp2
      go_loop [16] (fun i => ∃ k : Nat, k ≤ s.size ∧ i = .int .i64 k ∧ ∀ j, (h : j < s.size) → j < k → okAt j s[j].toNat = true) (fun i => s.size - (intOf i).toNat)
      case atStart => exact ⟨0, Nat.zero_le _, rfl, fun j hj h => by omega⟩
      case round =>
        obtain ⟨k, hk, rfl, hq⟩ := hrel
        have HQ := Lib.hid hq; clear hq
        by_cases hlt : k < s.size
        · obtain ⟨v, hv⟩ : ∃ v : Nat, s[k].toNat = v := ⟨_, rfl⟩
          have hrunk : ∀ W, (Instr.index 9 (.string s) (.int .i64 (k : Int))).run Tryz.prog W = .ok (.int .u8 (v : Int)) W := fun W => by subst hv; simp [go_sem, hlt]
          have HV := Lib.hid hv; clear hv
          rcases (show (97 ≤ v ∧ v ≤ 122 ∨ 65 ≤ v ∧ v ≤ 90) ∨ 122 < v ∨ v < 48 ∨ 48 ≤ v ∧ v ≤ 57 ∨ 57 < v ∧ v < 65 ∨ 90 < v ∧ v < 97 by omega) with hc | hc | hc | hc | hc | hc
          · have F := Lib.hid (okAt_letter (j := k) (v := v) (by unfold letterN; rcases hc with ⟨a, b⟩ | ⟨a, b⟩ <;> simp <;> omega))
            rcases hc with ⟨a, b⟩ | ⟨a, b⟩
            · have b1 : decide ((97 : Int) ≤ (v : Int)) = true := by simp; omega
              have b2 : decide ((v : Int) ≤ 122) = true := by simp; omega
              go_wp2
              go_round
              · exact ⟨k + 1, by omega, by go_num, ok_step HQ.out HV.out F.out⟩
              · simp [intOf]; omega
            · have b1 : decide ((97 : Int) ≤ (v : Int)) = false := by simp; omega
              have b3 : decide ((65 : Int) ≤ (v : Int)) = true := by simp; omega
              have b4 : decide ((v : Int) ≤ 90) = true := by simp; omega
              go_wp2
              go_round
              · exact ⟨k + 1, by omega, by go_num, ok_step HQ.out HV.out F.out⟩
              · simp [intOf]; omega
          · have HL := Lib.hid (show letterN v = false by unfold letterN; simp; omega)
            have b1 : decide ((97 : Int) ≤ (v : Int)) = true := by simp; omega
            have b2 : decide ((v : Int) ≤ 122) = false := by simp; omega
            have b3 : decide ((65 : Int) ≤ (v : Int)) = true := by simp; omega
            have b4 : decide ((v : Int) ≤ 90) = false := by simp; omega
            have c1 : decide ((48 : Int) ≤ (v : Int)) = true := by simp; omega
            have c2 : decide ((v : Int) ≤ 57) = false := by simp; omega
            go_wp2
            all_goals first | (have e0 : k = 0 := (by omega); have F := Lib.hid (denomB_false k hlt (by rw [HV.out]; exact okAt_zero e0 HL.out)); go_ret; rw [F.out]; exact ⟨rfl, rfl⟩) | (have F := Lib.hid (okAt_rest (j := k) (by omega) (restN_other (v := v) (by omega))); go_round; all_goals first | exact ⟨k + 1, by omega, by go_num, ok_step HQ.out HV.out F.out⟩ | (simp [intOf]; omega)) | (have hx := ‹((k : Int) == 0) = false ∧ _›; have F := Lib.hid (okAt_rest (j := k) (by simp at hx; omega) (restN_other (v := v) (by simp at hx; omega))); go_round; all_goals first | exact ⟨k + 1, by omega, by go_num, ok_step HQ.out HV.out F.out⟩ | (simp [intOf]; omega)) | (have hx := ‹((k : Int) == 0) = true ∨ _›; have F := Lib.hid (denomB_false k hlt (by rw [HV.out]; by_cases e0 : k = 0; exact okAt_zero e0 HL.out; exact okAt_not (by omega) (restN_false (by rw [HL.out]; exact Bool.false_ne_true) (by simp at hx; omega)))); go_ret; rw [F.out]; exact ⟨rfl, rfl⟩)
          · have HL := Lib.hid (show letterN v = false by unfold letterN; simp; omega)
            have b1 : decide ((97 : Int) ≤ (v : Int)) = false := by simp; omega
            have b3 : decide ((65 : Int) ≤ (v : Int)) = false := by simp; omega
            have c1 : decide ((48 : Int) ≤ (v : Int)) = false := by simp; omega
            go_wp2
            all_goals first | (have e0 : k = 0 := (by omega); have F := Lib.hid (denomB_false k hlt (by rw [HV.out]; exact okAt_zero e0 HL.out)); go_ret; rw [F.out]; exact ⟨rfl, rfl⟩) | (have F := Lib.hid (okAt_rest (j := k) (by omega) (restN_other (v := v) (by omega))); go_round; all_goals first | exact ⟨k + 1, by omega, by go_num, ok_step HQ.out HV.out F.out⟩ | (simp [intOf]; omega)) | (have hx := ‹((k : Int) == 0) = false ∧ _›; have F := Lib.hid (okAt_rest (j := k) (by simp at hx; omega) (restN_other (v := v) (by simp at hx; omega))); go_round; all_goals first | exact ⟨k + 1, by omega, by go_num, ok_step HQ.out HV.out F.out⟩ | (simp [intOf]; omega)) | (have hx := ‹((k : Int) == 0) = true ∨ _›; have F := Lib.hid (denomB_false k hlt (by rw [HV.out]; by_cases e0 : k = 0; exact okAt_zero e0 HL.out; exact okAt_not (by omega) (restN_false (by rw [HL.out]; exact Bool.false_ne_true) (by simp at hx; omega)))); go_ret; rw [F.out]; exact ⟨rfl, rfl⟩)
          · have HL := Lib.hid (show letterN v = false by unfold letterN; simp; omega)
            have b1 : decide ((97 : Int) ≤ (v : Int)) = false := by simp; omega
            have b3 : decide ((65 : Int) ≤ (v : Int)) = false := by simp; omega
            have c1 : decide ((48 : Int) ≤ (v : Int)) = true := by simp; omega
            have c2 : decide ((v : Int) ≤ 57) = true := by simp; omega
            go_wp2
            all_goals first | (have e0 : k = 0 := (by omega); have F := Lib.hid (denomB_false k hlt (by rw [HV.out]; exact okAt_zero e0 HL.out)); go_ret; rw [F.out]; exact ⟨rfl, rfl⟩) | (have F := Lib.hid (okAt_rest (j := k) (by omega) (restN_other (v := v) (by omega))); go_round; all_goals first | exact ⟨k + 1, by omega, by go_num, ok_step HQ.out HV.out F.out⟩ | (simp [intOf]; omega)) | (have hx := ‹((k : Int) == 0) = false ∧ _›; have F := Lib.hid (okAt_rest (j := k) (by simp at hx; omega) (restN_other (v := v) (by simp at hx; omega))); go_round; all_goals first | exact ⟨k + 1, by omega, by go_num, ok_step HQ.out HV.out F.out⟩ | (simp [intOf]; omega)) | (have hx := ‹((k : Int) == 0) = true ∨ _›; have F := Lib.hid (denomB_false k hlt (by rw [HV.out]; by_cases e0 : k = 0; exact okAt_zero e0 HL.out; exact okAt_not (by omega) (restN_false (by rw [HL.out]; exact Bool.false_ne_true) (by simp at hx; omega)))); go_ret; rw [F.out]; exact ⟨rfl, rfl⟩)
          · have HL := Lib.hid (show letterN v = false by unfold letterN; simp; omega)
            have b1 : decide ((97 : Int) ≤ (v : Int)) = false := by simp; omega
            have b3 : decide ((65 : Int) ≤ (v : Int)) = false := by simp; omega
            have c1 : decide ((48 : Int) ≤ (v : Int)) = true := by simp; omega
            have c2 : decide ((v : Int) ≤ 57) = false := by simp; omega
            go_wp2
            all_goals first | (have e0 : k = 0 := (by omega); have F := Lib.hid (denomB_false k hlt (by rw [HV.out]; exact okAt_zero e0 HL.out)); go_ret; rw [F.out]; exact ⟨rfl, rfl⟩) | (have F := Lib.hid (okAt_rest (j := k) (by omega) (restN_other (v := v) (by omega))); go_round; all_goals first | exact ⟨k + 1, by omega, by go_num, ok_step HQ.out HV.out F.out⟩ | (simp [intOf]; omega)) | (have hx := ‹((k : Int) == 0) = false ∧ _›; have F := Lib.hid (okAt_rest (j := k) (by simp at hx; omega) (restN_other (v := v) (by simp at hx; omega))); go_round; all_goals first | exact ⟨k + 1, by omega, by go_num, ok_step HQ.out HV.out F.out⟩ | (simp [intOf]; omega)) | (have hx := ‹((k : Int) == 0) = true ∨ _›; have F := Lib.hid (denomB_false k hlt (by rw [HV.out]; by_cases e0 : k = 0; exact okAt_zero e0 HL.out; exact okAt_not (by omega) (restN_false (by rw [HL.out]; exact Bool.false_ne_true) (by simp at hx; omega)))); go_ret; rw [F.out]; exact ⟨rfl, rfl⟩)
          · have HL := Lib.hid (show letterN v = false by unfold letterN; simp; omega)
            have b1 : decide ((97 : Int) ≤ (v : Int)) = false := by simp; omega
            have b3 : decide ((65 : Int) ≤ (v : Int)) = true := by simp; omega
            have b4 : decide ((v : Int) ≤ 90) = false := by simp; omega
            have c1 : decide ((48 : Int) ≤ (v : Int)) = true := by simp; omega
            have c2 : decide ((v : Int) ≤ 57) = false := by simp; omega
            go_wp2
            all_goals first | (have e0 : k = 0 := (by omega); have F := Lib.hid (denomB_false k hlt (by rw [HV.out]; exact okAt_zero e0 HL.out)); go_ret; rw [F.out]; exact ⟨rfl, rfl⟩) | (have F := Lib.hid (okAt_rest (j := k) (by omega) (restN_other (v := v) (by omega))); go_round; all_goals first | exact ⟨k + 1, by omega, by go_num, ok_step HQ.out HV.out F.out⟩ | (simp [intOf]; omega)) | (have hx := ‹((k : Int) == 0) = false ∧ _›; have F := Lib.hid (okAt_rest (j := k) (by simp at hx; omega) (restN_other (v := v) (by simp at hx; omega))); go_round; all_goals first | exact ⟨k + 1, by omega, by go_num, ok_step HQ.out HV.out F.out⟩ | (simp [intOf]; omega)) | (have hx := ‹((k : Int) == 0) = true ∨ _›; have F := Lib.hid (denomB_false k hlt (by rw [HV.out]; by_cases e0 : k = 0; exact okAt_zero e0 HL.out; exact okAt_not (by omega) (restN_false (by rw [HL.out]; exact Bool.false_ne_true) (by simp at hx; omega)))); go_ret; rw [F.out]; exact ⟨rfl, rfl⟩)
        · obtain rfl : k = s.size := by omega
          have F := Lib.hid (denomB_true (s := s) (by omega) (by omega) (fun j h => HQ.out j h h))
          go_wp2
          go_ret
          rw [F.out]; exact ⟨rfl, rfl⟩
end Go.Proofs.YtlpdhpfjcfihoaaGreatDoor

namespace Go.Proofs.YtlpdhpfjcfihoaaGreatDoor
open Go Go.RowKit

/-- An error of errors.New. -/
def errV (b : Nat) : Value := .iface 181 (.pointer (some ⟨b, 0, none⟩))
def RetErr (s : ByteArray) (w : World) (e : Ending) (w' : World) : Prop := ∃ b, e = .returned (.iface 181 (.pointer (some ⟨b, 0, none⟩))) ∧ Blk w' b 183 [.string s] ∧ Ext w w'

set_option maxRecDepth 100000 in
theorem eNew (s : ByteArray) (w : World) : Calls Tryz.prog 138 #[.string s] w (RetErr s w) := by
  go_enter Tryz.func138, Tryz.ntmps138
  go_wp2
  go_ret
  exact ⟨_, rfl, Blk.new _ _ _, Ext.alloc' _ _⟩

set_option maxRecDepth 100000 in
theorem eError (s : ByteArray) (b : Nat) (w : World) (h : Blk w b 183 [.string s]) : Calls Tryz.prog 365 #[.pointer (some ⟨b, 0, none⟩)] w fun e w' => e = .returned (.string s) ∧ w' = w := by
  have c0 : w.cell? ⟨b, 0, none⟩ = some (.string s) := (h.cell 0).trans rfl
  clear h
  go_enter Tryz.func365, Tryz.ntmps365
  go_wp2
  go_ret
  exact ⟨rfl, rfl⟩

set_option maxRecDepth 100000 in
theorem iWordNil (w : World) : Calls Tryz.prog 88 #[.nilIface] w fun e w' => e = .returned (.string ⟨#[]⟩) ∧ w' = w := by
  go_enter Tryz.func88, Tryz.ntmps88
  go_wp2
  go_ret
  exact ⟨rfl, rfl⟩

set_option maxRecDepth 100000 in
theorem iWordErr (s : ByteArray) (b : Nat) (w : World) (h : Blk w b 183 [.string s]) : Calls Tryz.prog 88 #[.iface 181 (.pointer (some ⟨b, 0, none⟩))] w fun e w' => e = .returned (.string s) ∧ w' = w := by
  have H := Lib.hid (eError s b w h); clear h
  go_enter Tryz.func88, Tryz.ntmps88
  go_wp2_with (first | (go_at_call 365; (with_reducible refine H.out.mono ?_); rintro e w' ⟨rfl, rfl⟩))
  go_ret
  exact ⟨rfl, rfl⟩

/-- "invalid denom". -/
abbrev invDenom : ByteArray := ⟨#[105, 110, 118, 97, 108, 105, 100, 32, 100, 101, 110, 111, 109]⟩

/-- No error, or this one. -/
def RetValid (r : Bool) (w : World) (e : Ending) (w' : World) : Prop := (r = true ∧ e = .returned .nilIface ∧ w' = w) ∨ (r = false ∧ RetErr invDenom w e w')

set_option maxRecDepth 100000 in
theorem tValid (s : ByteArray) (w : World) (hs : s.size ≤ 9223372036854775807) : Calls Tryz.prog 119 #[.string s] w
    (RetValid (denomB s) w) := by
  have H := Lib.hid (zDenom s w hs)
  obtain ⟨r, hr⟩ : ∃ r, r = denomB s := ⟨_, rfl⟩
  rw [← hr] at H ⊢
  clear hr
  cases r
  · go_enter Tryz.func119, Tryz.ntmps119
    go_wp2_with (first | (go_at_call 162; (with_reducible refine H.out.mono ?_); rintro e w' ⟨rfl, rfl⟩) | (go_at_call 138; refine (eNew invDenom _).mono ?_; rintro e w' ⟨b, rfl, hB, hE⟩; have HB := Lib.hid hB; have HE := Lib.hid hE; clear hB hE))
    go_ret
    exact Or.inr ⟨rfl, b, rfl, HB.out, HE.out⟩
  · go_enter Tryz.func119, Tryz.ntmps119
    go_wp2_with (first | (go_at_call 162; (with_reducible refine H.out.mono ?_); rintro e w' ⟨rfl, rfl⟩))
    go_ret
    exact Or.inl ⟨rfl, rfl, rfl⟩

/-- The words of ValidateDenom's error. -/
def denomWord (s : ByteArray) : ByteArray := if denomB s then ⟨#[]⟩ else invDenom

set_option maxRecDepth 100000 in
theorem iDenomErr (s : ByteArray) (w : World) (hs : s.size ≤ 9223372036854775807) : Calls Tryz.prog 71 #[.string s] w (RetE (.string (denomWord s)) w) := by
  have H := Lib.hid (tValid s w hs)
  obtain ⟨r, hr⟩ : ∃ r, r = denomB s := ⟨_, rfl⟩
  have F := Lib.hid hr
  rw [← hr] at H
  unfold denomWord
  rw [← hr]
  clear hr
  cases r
  · have H2 := Lib.hid (show Calls Tryz.prog 119 #[.string s] w (RetErr invDenom w) from H.out.mono (by rintro e w' (⟨h, _⟩ | ⟨_, h⟩); cases h; exact h))
    go_enter Tryz.func71, Tryz.ntmps71
    go_wp2_with (first | (go_at_call 119; (with_reducible refine H2.out.mono ?_); rintro e w' ⟨b, rfl, hB, hE⟩; have HB := Lib.hid hB; have HE := Lib.hid hE; clear hB hE) | (go_at_call 88; refine (iWordErr invDenom b _ HB.out).mono ?_; rintro e w' ⟨rfl, rfl⟩))
    go_ret
    exact ⟨rfl, HE.out⟩
  · have H2 := Lib.hid (show Calls Tryz.prog 119 #[.string s] w (fun e w' => e = .returned .nilIface ∧ w' = w) from H.out.mono (by rintro e w' (⟨_, h⟩ | ⟨h, _⟩); exact h; cases h))
    go_enter Tryz.func71, Tryz.ntmps71
    go_wp2_with (first | (go_at_call 119; (with_reducible refine H2.out.mono ?_); rintro e w' ⟨rfl, rfl⟩) | (go_at_call 88; refine (iWordNil _).mono ?_; rintro e w' ⟨rfl, rfl⟩))
    go_ret
    exact ⟨rfl, Ext.refl _⟩
end Go.Proofs.YtlpdhpfjcfihoaaGreatDoor

namespace Go.Proofs.YtlpdhpfjcfihoaaGreatDoor
open Go Go.RowKit Go.Maps

abbrev kAAA : ByteArray := ⟨#[97, 97, 97]⟩
abbrev kBBB : ByteArray := ⟨#[98, 98, 98]⟩
theorem awakeAdd : IsAdd ([(kAAA, 2)] ++ [(kBBB, 3)]) [(kAAA, 2), (kBBB, 3)] :=
  ⟨[kAAA, kBBB], by simp [keyLt]; decide, fun s => by simp; exact ⟨fun h => h.imp Eq.symm Eq.symm, fun h => h.imp Eq.symm Eq.symm⟩, by
    have e1 : decide (kBBB = kAAA) = false := by decide
    have e2 : decide (kAAA = kBBB) = false := by decide
    simp [coalP, totalP]⟩
theorem plain_two {w : World} {base : Nat} {E : TypeId} {v : Value} {x y : ByteArray × Int} (h : PlainOwn w base E v [x, y]) :
    ∃ g c, v = .slice (some ⟨g, 0, none⟩) 2 c ∧ w.cell? ⟨g, 2, none⟩ = some (.string y.1) ∧ w.cell? ⟨g, 3, none⟩ = some (.int .i64 y.2) := by
  rcases h.2 with ⟨_, h0⟩ | ⟨g, cap, cur, hv, _, hb, _, _, _, ht⟩
  · simp at h0
  · refine ⟨g, cap, hv, ?_, ?_⟩
    all_goals
      have hk : Blk w g E cur.toList := by unfold Blk; simpa using hb
      rw [hk.cell]
      simp [flat2, plain] at ht
    · have := congrArg (fun l => l[2]?) ht; simpa [List.getElem?_take] using this
    · have := congrArg (fun l => l[3]?) ht; simpa [List.getElem?_take] using this
theorem plain_one {W : World} {b : Nat} {s : ByteArray} {z : Int} (h0 : W.cell? ⟨b, 0, none⟩ = some (.string s)) (h1 : W.cell? ⟨b, 1, none⟩ = some (.int .i64 z)) : PlainAt W (some ⟨b, 0, none⟩) [(s, z)] := by
  intro _
  refine ⟨b, 0, rfl, fun j hj => ?_⟩
  obtain rfl : j = 0 := by simp at hj; omega
  exact ⟨by simpa [plain] using h0, by simpa [plain] using h1⟩

set_option maxRecDepth 100000 in
set_option maxHeartbeats 2000000 in
theorem sumAwake (w : World) : Calls Tryz.prog 19 #[] w (RetE (.bool true) w) := by
  have hA : PlainAt ((w.alloc (.cells #[.string kAAA, .int .i64 2] 31)).alloc (.cells #[.string kBBB, .int .i64 3] 31)) (some ⟨w.heap.size, 0, none⟩) [(kAAA, 2)] :=
    plain_one (cell_old _ (by rw [cell_new]; rfl)) (cell_old _ (by rw [cell_new]; rfl))
  have hs : (w.alloc (.cells #[.string kAAA, .int .i64 2] 31)).heap.size = w.heap.size + 1 := by simp
  have hB : PlainAt ((w.alloc (.cells #[.string kAAA, .int .i64 2] 31)).alloc (.cells #[.string kBBB, .int .i64 3] 31)) (some ⟨w.heap.size + 1, 0, none⟩) [(kBBB, 3)] := by
    rw [← hs]; exact plain_one (by rw [cell_new]; rfl) (by rw [cell_new]; rfl)
  have H := Lib.hid ((iAddOf _ _ 1 1 1 1 [(kAAA, 2)] [(kBBB, 3)] _ rfl rfl (by omega) hA hB (by intro x hx; simp at hx; rcases hx with rfl | rfl <;> decide) (by intro x hx; simp at hx; rcases hx with rfl | rfl <;> decide)).mono (by
    intro e w' h
    unfold RetAddOf at h
    rw [if_pos ⟨rfl, rfl⟩] at h
    obtain ⟨v, r, he, hr, ho, hE⟩ := h
    rw [isAdd_unique hr awakeAdd] at ho
    exact (show ∃ v, e = .returned (.tuple #[v, .bool true]) ∧ PlainOwn w' _ 31 v [(kAAA, 2), (kBBB, 3)] ∧ Ext _ w' from ⟨v, he, ho, hE⟩)))
  clear hA hB hs
  have hD := Lib.hid (fun W : World => iDenomErr ⟨#[97]⟩ W (by decide))
  have hw : denomWord ⟨#[97]⟩ = invDenom := by unfold denomWord; rw [denomB_short (by decide)]; rfl
  rw [hw] at hD
  clear hw
  go_enter Tryz.func19, Tryz.ntmps19
  go_wp2_with (first | (go_at_call 70; (with_reducible refine H.out.mono ?_); rintro e w' ⟨v, rfl, ho, hE⟩; obtain ⟨g, c, rfl, hc0, hc1⟩ := plain_two ho; have HE := Lib.hid hE; clear ho hE) | (go_at_call 71; (with_reducible refine (hD.out _).mono ?_); rintro e w2 ⟨rfl, hE2⟩; have HE2 := Lib.hid hE2; clear hE2))
  go_ret
  exact ⟨rfl, ((ext2 w _ _).trans' HE.out).trans' HE2.out⟩
end Go.Proofs.YtlpdhpfjcfihoaaGreatDoor

namespace Go.Proofs.YtlpdhpfjcfihoaaGreatDoor
open Go Go.RowKit

/-- A bool handed back that, if true, tells this. -/
def RetIf (p : Prop) (w : World) (e : Ending) (w' : World) : Prop := ∃ r : Bool, e = .returned (.bool r) ∧ (r = true → p) ∧ Ext w w'

set_option maxRecDepth 100000 in
theorem zFits1 (s : ByteArray) (z : Int) (w : World) : Calls Tryz.prog 61 #[.agg #[.string s, .int .i64 z]] w (RetE (.bool (decide (s.size ≤ 2147483647))) w) := by
  by_cases h1 : 2147483647 < s.size
  · have d1 : decide (2147483647 < s.size) = true := by simpa using h1
    have F := Lib.hid (show decide (s.size ≤ 2147483647) = false by simp; omega)
    go_enter Tryz.func61, Tryz.ntmps61
    go_wp2
    go_ret
    rw [F.out]; exact ⟨rfl, ext1 _ _⟩
  · have d1 : decide (2147483647 < s.size) = false := by simpa using h1
    have F := Lib.hid (show decide (s.size ≤ 2147483647) = true by simp; omega)
    go_enter Tryz.func61, Tryz.ntmps61
    go_wp2
    go_ret
    rw [F.out]; exact ⟨rfl, ext1 _ _⟩

/-- What zzFits2 tells. -/
def Fits (n : Nat) (l : List (ByteArray × Int)) : Prop := n ≤ 2147483647 ∧ ∀ x ∈ l, x.1.size ≤ 2147483647

set_option maxRecDepth 100000 in
set_option maxHeartbeats 1000000 in
theorem zFits2 (A : Option Addr) (n c : Nat) (l : List (ByteArray × Int)) (w : World) (hl : l.length = n) (hn : n ≤ 9223372036854775807) (h : PlainAt w A l) :
    Calls Tryz.prog 14 #[.slice A n c] w (RetIf (Fits n l) w) := by
  have HL := Lib.hid hl; have HP := Lib.hid h
  clear hl h
  by_cases h1 : 2147483647 < n
  · have d1 : decide ((2147483647 : Int) < (n : Int)) = true := by simp; omega
    go_enter Tryz.func14, Tryz.ntmps14
    go_wp2
    go_ret
    exact ⟨false, rfl, (fun h => by cases h), Ext.refl _⟩
  · have d1 : decide ((2147483647 : Int) < (n : Int)) = false := by simp; omega
    go_enter Tryz.func14, Tryz.ntmps14
    go_wp2
    go_loopw [10] (fun i wr => ∃ k : Nat, k ≤ n ∧ i = .int .i64 k ∧ (∀ x ∈ l.take k, x.1.size ≤ 2147483647) ∧ Ext w wr) (fun i _ => n - (intOf i).toNat)
    case atStart => exact ⟨0, Nat.zero_le _, rfl, (fun x hx => by simp at hx), Ext.refl _⟩
    case round =>
      obtain ⟨k, hk, rfl, hq, hE⟩ := hrel
      have HQ := Lib.hid hq; have HE := Lib.hid hE
      clear hq hE
      by_cases hlt : k < n
      · have hkl : k < l.length := by rw [HL.out]; exact hlt
        obtain ⟨s, hs⟩ : ∃ s, s = l[k].1 := ⟨_, rfl⟩
        obtain ⟨z, hzz⟩ : ∃ z, z = l[k].2 := ⟨_, rfl⟩
        obtain ⟨g, o, hA, hc⟩ := HP.out (by intro e; have := congrArg List.length e; simp at this; rw [this] at hkl; simp at hkl)
        subst hA
        have hck := hc k (by simpa using hkl)
        have cs0 : wr.cell? ⟨g, o + k * 2, none⟩ = some (.string s) := HE.out.cell' (by rw [hck.1, hs]; simp [plain])
        have cs1 : wr.cell? ⟨g, o + k * 2 + 1, none⟩ = some (.int .i64 z) := HE.out.cell' (by rw [hck.2, hzz]; simp [plain])
        have HS := Lib.hid hs; clear hs hzz hck hc
        obtain ⟨r, hr⟩ : ∃ r, r = decide (s.size ≤ 2147483647) := ⟨_, rfl⟩
        have HF := Lib.hid (fun W : World => zFits1 s z W)
        rw [← hr] at HF
        have HR := Lib.hid hr; clear hr
        cases r
        · go_wp2_with (first | (go_at_call 61; (with_reducible refine (HF.out _).mono ?_); rintro e w1 ⟨rfl, hE1⟩; have HE1 := Lib.hid ((ext1 _ _).trans' hE1); clear hE1))
          go_ret
          exact ⟨false, rfl, (fun h => by cases h), HE.out.trans' HE1.out⟩
        · go_wp2_with (first | (go_at_call 61; (with_reducible refine (HF.out _).mono ?_); rintro e w1 ⟨rfl, hE1⟩; have HE1 := Lib.hid ((ext1 _ _).trans' hE1); clear hE1))
          go_roundw
          case rel =>
            refine ⟨k + 1, by omega, by go_num, fun x hx => ?_, HE.out.trans' HE1.out⟩
            rw [List.take_succ_eq_append_getElem hkl, List.mem_append, List.mem_singleton] at hx
            rcases hx with hx | rfl
            · exact HQ.out x hx
            · rw [← HS.out]; simpa using HR.out.symm
          case measure => simp [intOf]; omega
      · obtain rfl : k = n := by omega
        go_wp2
        go_ret
        exact ⟨true, rfl, (fun _ => ⟨by omega, fun x hx => HQ.out x (by rw [List.take_of_length_le (by rw [HL.out]; exact Nat.le_refl _)]; exact hx)⟩), HE.out⟩

/-- At most 8 coins, of denominations, with amounts of at most 2^40 from 0. -/
def listB (l : List (ByteArray × Int)) : Bool := decide (l.length ≤ 8 ∧ ∀ x ∈ l, denomB x.1 = true ∧ -1099511627776 ≤ x.2 ∧ x.2 ≤ 1099511627776)
theorem listB_false {l : List (ByteArray × Int)} {x : ByteArray × Int} (hx : x ∈ l) (h : ¬ (denomB x.1 = true ∧ -1099511627776 ≤ x.2 ∧ x.2 ≤ 1099511627776)) : listB l = false := by
  unfold listB; rw [decide_eq_false_iff_not]; rintro ⟨_, k⟩; exact h (k x hx)

set_option maxRecDepth 100000 in
set_option maxHeartbeats 1000000 in
theorem sIsSumList (A : Option Addr) (n c : Nat) (l : List (ByteArray × Int)) (w : World) (hl : l.length = n) (hf : Fits n l) (h : PlainAt w A l) :
    Calls Tryz.prog 62 #[.slice A n c] w (RetE (.bool (listB l)) w) := by
  obtain ⟨hn, hsz⟩ := hf
  have HL := Lib.hid hl; have HP := Lib.hid h; have HSZ := Lib.hid hsz
  clear hl h hsz
  by_cases h1 : 8 < n
  · have d1 : decide ((8 : Int) < (n : Int)) = true := by simp; omega
    have F := Lib.hid (show listB l = false by unfold listB; rw [decide_eq_false_iff_not]; rintro ⟨k, _⟩; have := HL.out; omega)
    go_enter Tryz.func62, Tryz.ntmps62
    go_wp2
    go_ret
    rw [F.out]; exact ⟨rfl, Ext.refl _⟩
  · have d1 : decide ((8 : Int) < (n : Int)) = false := by simp; omega
    go_enter Tryz.func62, Tryz.ntmps62
    go_wp2
    go_loopw [10] (fun i wr => ∃ k : Nat, k ≤ n ∧ i = .int .i64 k ∧ (∀ x ∈ l.take k, denomB x.1 = true ∧ -1099511627776 ≤ x.2 ∧ x.2 ≤ 1099511627776) ∧ Ext w wr) (fun i _ => n - (intOf i).toNat)
    case atStart => exact ⟨0, Nat.zero_le _, rfl, (fun x hx => by simp at hx), Ext.refl _⟩
    case round =>
      obtain ⟨k, hk, rfl, hq, hE⟩ := hrel
      have HQ := Lib.hid hq; have HE := Lib.hid hE
      clear hq hE
      by_cases hlt : k < n
      · have hkl : k < l.length := by rw [HL.out]; exact hlt
        obtain ⟨s, hs⟩ : ∃ s, s = l[k].1 := ⟨_, rfl⟩
        obtain ⟨z, hzz⟩ : ∃ z, z = l[k].2 := ⟨_, rfl⟩
        obtain ⟨g, o, hA, hc⟩ := HP.out (by intro e; have := congrArg List.length e; simp at this; rw [this] at hkl; simp at hkl)
        subst hA
        have hck := hc k (by simpa using hkl)
        have cs0 : wr.cell? ⟨g, o + k * 2, none⟩ = some (.string s) := HE.out.cell' (by rw [hck.1, hs]; simp [plain])
        have cs1 : wr.cell? ⟨g, o + k * 2 + 1, none⟩ = some (.int .i64 z) := HE.out.cell' (by rw [hck.2, hzz]; simp [plain])
        have HD := Lib.hid (fun W : World => sDenom s W (by rw [hs]; have := HSZ.out _ (List.getElem_mem hkl); omega))
        have HS := Lib.hid hs; have HZ := Lib.hid hzz; clear hs hzz hck hc
        have HM := Lib.hid (List.getElem_mem hkl)
        obtain ⟨r, hr⟩ : ∃ r, r = denomB s := ⟨_, rfl⟩
        rw [← hr] at HD
        have HR := Lib.hid hr; clear hr
        have bad := Lib.hid (fun (hb : ¬ (r = true ∧ -1099511627776 ≤ z ∧ z ≤ 1099511627776)) => listB_false HM.out (by rw [← HS.out, ← HZ.out, ← HR.out]; exact hb))
        cases r
        · go_wp2_with (first | (go_at_call 108; (with_reducible refine (HD.out _).mono ?_); rintro e w1 ⟨rfl, rfl⟩))
          go_ret
          rw [bad.out (by simp)]; exact ⟨rfl, HE.out.trans' (ext1 _ _)⟩
        · by_cases hz1 : z < -1099511627776
          · go_wp2_with (first | (go_at_call 108; (with_reducible refine (HD.out _).mono ?_); rintro e w1 ⟨rfl, rfl⟩))
            go_ret
            rw [bad.out (by omega)]; exact ⟨rfl, HE.out.trans' (ext1 _ _)⟩
          · by_cases hz2 : 1099511627776 < z
            · go_wp2_with (first | (go_at_call 108; (with_reducible refine (HD.out _).mono ?_); rintro e w1 ⟨rfl, rfl⟩))
              go_ret
              rw [bad.out (by omega)]; exact ⟨rfl, HE.out.trans' (ext1 _ _)⟩
            · go_wp2_with (first | (go_at_call 108; (with_reducible refine (HD.out _).mono ?_); rintro e w1 ⟨rfl, rfl⟩))
              go_roundw
              case rel =>
                refine ⟨k + 1, by omega, by go_num, fun x hx => ?_, HE.out.trans' (ext1 _ _)⟩
                rw [List.take_succ_eq_append_getElem hkl, List.mem_append, List.mem_singleton] at hx
                rcases hx with hx | rfl
                · exact HQ.out x hx
                · rw [← HS.out, ← HZ.out, ← HR.out]; exact ⟨rfl, by omega, by omega⟩
              case measure => simp [intOf]; omega
      · obtain rfl : k = n := by omega
        have F := Lib.hid (show listB l = true by
          unfold listB; rw [decide_eq_true_iff]
          exact ⟨by rw [HL.out]; omega, fun x hx => HQ.out x (by rw [List.take_of_length_le (by rw [HL.out]; exact Nat.le_refl _)]; exact hx)⟩)
        go_wp2
        go_ret
        rw [F.out]; exact ⟨rfl, HE.out⟩
end Go.Proofs.YtlpdhpfjcfihoaaGreatDoor

namespace Go.Proofs.YtlpdhpfjcfihoaaGreatDoor
open Go Go.RowKit

theorem take_eq_false {l l' : List (ByteArray × Int)} {k : Nat} (h : k < l.length) (h' : k < l'.length) (hne : l[k] ≠ l'[k]) : decide (l = l') = false := by
  rw [decide_eq_false_iff_not]; rintro rfl; exact hne rfl
theorem toList_ne {s t : ByteArray} (h : s ≠ t) : ¬ s.toList = t.toList := fun e => h (key_ext e)

set_option maxRecDepth 100000 in
set_option maxHeartbeats 1000000 in
theorem sSumSame (A B : Option Addr) (n c m d : Nat) (l l' : List (ByteArray × Int)) (w : World) (hl : l.length = n) (hl' : l'.length = m) (hn : n ≤ 1000000) (hm : m ≤ 1000000) (h : PlainAt w A l) (h' : PlainAt w B l') :
    Calls Tryz.prog 20 #[.slice A n c, .slice B m d] w (RetQ (.bool (decide (l = l'))) w) := by
  have HL := Lib.hid hl; have HP := Lib.hid h; have HL' := Lib.hid hl'; have HP' := Lib.hid h'
  clear hl h hl' h'
  by_cases hnm : n = m
  · subst hnm
    go_enter Tryz.func20, Tryz.ntmps20
    go_wp2
    go_loopw [13] (fun i wr => ∃ (k q : Nat), k ≤ n ∧ i = .int .i64 k ∧ wr = w.drewN q ∧ l.take k = l'.take k) (fun i _ => n - (intOf i).toNat)
    case atStart => exact ⟨0, 0, Nat.zero_le _, rfl, rfl, rfl⟩
    case round =>
      obtain ⟨k, q, hk, rfl, rfl, hq⟩ := hrel
      have HQ := Lib.hid hq; clear hq
      by_cases hlt : k < n
      · have hkl : k < l.length := by rw [HL.out]; exact hlt
        have hkl' : k < l'.length := by rw [HL'.out]; exact hlt
        obtain ⟨s, hs⟩ : ∃ s, s = l[k].1 := ⟨_, rfl⟩
        obtain ⟨z, hz⟩ : ∃ z, z = l[k].2 := ⟨_, rfl⟩
        obtain ⟨t, ht⟩ : ∃ t, t = l'[k].1 := ⟨_, rfl⟩
        obtain ⟨y, hy⟩ : ∃ y, y = l'[k].2 := ⟨_, rfl⟩
        obtain ⟨g, o, hA, hc⟩ := HP.out (by intro e; have := congrArg List.length e; simp at this; rw [this] at hkl; simp at hkl)
        obtain ⟨g', o', hB, hc'⟩ := HP'.out (by intro e; have := congrArg List.length e; simp at this; rw [this] at hkl'; simp at hkl')
        subst hA; subst hB
        have hck := hc k (by simpa using hkl)
        have hck' := hc' k (by simpa using hkl')
        have cs0 : w.cell? ⟨g, o + k * 2, none⟩ = some (.string s) := by rw [hck.1, hs]; simp [plain]
        have cs1 : w.cell? ⟨g, o + k * 2 + 1, none⟩ = some (.int .i64 z) := by rw [hck.2, hz]; simp [plain]
        have ct0 : w.cell? ⟨g', o' + k * 2, none⟩ = some (.string t) := by rw [hck'.1, ht]; simp [plain]
        have ct1 : w.cell? ⟨g', o' + k * 2 + 1, none⟩ = some (.int .i64 y) := by rw [hck'.2, hy]; simp [plain]
        have HE := Lib.hid (show l[k] = (s, z) by rw [hs, hz])
        have HE' := Lib.hid (show l'[k] = (t, y) by rw [ht, hy])
        clear hs hz ht hy hck hck' hc hc'
        have b0 : (0 : Int) ≤ (k : Int) := by omega
        have b1 : (k : Int) < (n : Int) := by omega
        by_cases hst : s = t
        · subst hst
          by_cases hzy : z = y
          · subst hzy
            go_wp2
            go_quiet (fail)
            go_wp2
            go_roundw
            case rel => exact ⟨k + 1, _, by omega, by go_num, rfl, by rw [List.take_succ_eq_append_getElem hkl, List.take_succ_eq_append_getElem hkl', HQ.out, HE.out, HE'.out]⟩
            case measure => simp [intOf]; omega
          · have F := Lib.hid (take_eq_false hkl hkl' (by rw [HE.out, HE'.out]; intro e; exact hzy (Prod.mk.inj e).2))
            go_wp2
            go_quiet (fail)
            go_wp2
            go_ret
            rw [F.out]; exact ⟨rfl, by first | exact dr1 _ _ | exact dr2 _ _ _⟩
        · have F := Lib.hid (take_eq_false hkl hkl' (by rw [HE.out, HE'.out]; intro e; exact hst (Prod.mk.inj e).1))
          have hne := toList_ne hst
          go_wp2
          go_quiet (fail)
          go_wp2
          go_ret
          rw [F.out]; exact ⟨rfl, by first | exact dr1 _ _ | exact dr2 _ _ _⟩
      · obtain rfl : k = n := by omega
        have F := Lib.hid (show decide (l = l') = true by
          have := HQ.out
          rw [List.take_of_length_le (by rw [HL.out]; exact Nat.le_refl _), List.take_of_length_le (by rw [HL'.out]; exact Nat.le_refl _)] at this
          simpa using this)
        go_wp2
        go_ret
        rw [F.out]; exact ⟨rfl, by first | exact dr1 _ _ | exact dr2 _ _ _⟩
  · have F := Lib.hid (show decide (l = l') = false by rw [decide_eq_false_iff_not]; rintro rfl; exact hnm (HL.out.symm.trans HL'.out))
    have d1 : ((n : Int) == (m : Int)) = false := by simp; omega
    go_enter Tryz.func20, Tryz.ntmps20
    go_wp2
    go_ret
    rw [F.out]; exact ⟨rfl, dr0 _⟩

end Go.Proofs.YtlpdhpfjcfihoaaGreatDoor

namespace Go.Proofs.YtlpdhpfjcfihoaaGreatDoor
open Go Go.RowKit

theorem pown_at {w : World} {base : Nat} {E : TypeId} {v : Value} {l : List (ByteArray × Int)} (h : PlainOwn w base E v l) : ∃ A c, v = .slice A l.length c ∧ PlainAt w A l := by
  obtain ⟨A, c, rfl⟩ := own_slice h
  exact ⟨A, c, rfl, recAt_of_owns (ps := l.map plain) (by simp) h⟩
theorem pown_len {w : World} {base n : Nat} {E : TypeId} {v : Value} {l : List (ByteArray × Int)} (h : PlainOwn w base E v l) (hl : l.length = n) : ∃ A c, v = .slice A n c ∧ PlainAt w A l := by
  subst hl; exact pown_at h
theorem ext_q {w w' : World} (h : ∃ n, w' = w.drewN n) : Ext w w' := by obtain ⟨n, rfl⟩ := h; exact Ext.drewN' _ _
theorem listB_len {l : List (ByteArray × Int)} (h : listB l = true) : l.length ≤ 8 := by
  unfold listB at h; rw [decide_eq_true_iff] at h; exact h.1
theorem listB_mem {l : List (ByteArray × Int)} (h : listB l = true) : ∀ x ∈ l, denomB x.1 = true ∧ -1099511627776 ≤ x.2 ∧ x.2 ≤ 1099511627776 := by
  unfold listB at h; rw [decide_eq_true_iff] at h; exact h.2
theorem listB_max {l : List (ByteArray × Int)} (h : listB l = true) : ∀ x ∈ l, -maxI ≤ x.2 ∧ x.2 ≤ maxI := by
  intro x hx; have := listB_mem h x hx; unfold maxI; omega
theorem listB_abs {l : List (ByteArray × Int)} (h : listB l = true) : ∀ x ∈ l, x.2.natAbs ≤ 1125899906842624 := by
  intro x hx; have := listB_mem h x hx; omega
theorem fits_size {n : Nat} {l : List (ByteArray × Int)} (h : Fits n l) : ∀ x ∈ l, x.1.size ≤ maxLen := by
  intro x hx; have := h.2 x hx; unfold maxLen; omega
theorem both {α : Type} {Q : α → Prop} {l m : List α} (h : ∀ x ∈ l, Q x) (k : ∀ x ∈ m, Q x) : ∀ x ∈ l ++ m, Q x := fun x hx => (List.mem_append.1 hx).elim (h x) (k x)
/-- Each name stands once. -/
def onceB (l : List (ByteArray × Int)) : Bool := decide (l.Pairwise fun a b => a.1 ≠ b.1)
theorem once_strict {r : List (ByteArray × Int)} (h : r.Pairwise fun a b => le a.1 b.1) (k : r.Pairwise fun a b => a.1 ≠ b.1) : r.Pairwise fun a b => keyLt a.1 b.1 = true :=
  (h.and k).imp fun ⟨h1, h2⟩ => key_lt_of_le_ne h1 h2
theorem sorted_same {l r r' : List (ByteArray × Int)} (h1 : r.Perm l) (h2 : r.Pairwise fun a b => le a.1 b.1) (h3 : r'.Perm l) (h4 : r'.Pairwise fun a b => le a.1 b.1) (ho : onceB l = true) : r = r' := by
  unfold onceB at ho; rw [decide_eq_true_iff] at ho
  exact asc_unique (key := Prod.fst) (h1.trans h3.symm) h2 (once_strict h4 (h3.symm.pairwise ho fun h e => h e.symm))
end Go.Proofs.YtlpdhpfjcfihoaaGreatDoor
