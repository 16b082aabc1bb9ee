/-
  Contracts of the questions whether a text is a denomination.
-/
import Derived.Test.YtagfbefgcijegaaGreatDoorChecked
import Derived.Test.YtagfbefgcijegaaGreatDoorMem
import Derived.Test.YtagfbefgcijegaaGreatDoorCmp
import Derived.WalkLawsBesides
import Derived.WalkSpells
import Derived.Outline
namespace Go.Proofs.YtagfbefgcijegaaGreatDoor
open Go Go.RowKit

def letterN (n : Nat) : Bool := decide ((97 : Int) ≤ (n : Int)) && decide ((n : Int) ≤ 122) || decide ((65 : Int) ≤ (n : Int)) && decide ((n : Int) ≤ 90)
def restN (n : Nat) : Bool := letterN n || decide ((48 : Int) ≤ (n : Int)) && decide ((n : Int) ≤ 57) || (n : Int) == 47 || (n : Int) == 58 || (n : Int) == 46 || (n : Int) == 95 || (n : Int) == 45
def okAt (j n : Nat) : Bool := if j = 0 then letterN n else restN n
/-- A denomination: a letter, and 2 to 127 letters, digits and / : . _ - behind it. -/
def denomB (s : ByteArray) : Bool := decide (3 ≤ s.size ∧ s.size ≤ 128 ∧ ∀ j, (h : j < s.size) → okAt j s[j].toNat = true)
theorem denomB_false {s : ByteArray} (j : Nat) (h : j < s.size) (hf : okAt j s[j].toNat = false) : denomB s = false := by
  unfold denomB; rw [decide_eq_false_iff_not]; rintro ⟨_, _, k⟩; rw [k j h] at hf; cases hf
theorem denomB_true {s : ByteArray} (h1 : 3 ≤ s.size) (h2 : s.size ≤ 128) (h : ∀ j, (h : j < s.size) → okAt j s[j].toNat = true) : denomB s = true := by
  unfold denomB; rw [decide_eq_true_iff]; exact ⟨h1, h2, h⟩
theorem denomB_short {s : ByteArray} (h : s.size < 3) : denomB s = false := by unfold denomB; rw [decide_eq_false_iff_not]; rintro ⟨k, _⟩; omega
theorem denomB_long {s : ByteArray} (h : 128 < s.size) : denomB s = false := by unfold denomB; rw [decide_eq_false_iff_not]; rintro ⟨_, k, _⟩; omega

theorem restN_letter {v : Nat} (h : letterN v = true) : restN v = true := by unfold restN; rw [h]; rfl
theorem restN_other {v : Nat} (h : 48 ≤ v ∧ v ≤ 57 ∨ v = 47 ∨ v = 58 ∨ v = 46 ∨ v = 95 ∨ v = 45) : restN v = true := by
  unfold restN
  rcases h with h | h | h | h | h | h
  · have a : decide ((48 : Int) ≤ (v : Int)) = true := by simp; omega
    have b : decide ((v : Int) ≤ 57) = true := by simp; omega
    rw [a, b]; simp
  all_goals subst h; simp
theorem restN_false {v : Nat} (h : ¬ letterN v = true) (k : ¬ (48 ≤ v ∧ v ≤ 57) ∧ v ≠ 47 ∧ v ≠ 58 ∧ v ≠ 46 ∧ v ≠ 95 ∧ v ≠ 45) : restN v = false := by
  unfold restN
  have hl : letterN v = false := by simpa using h
  have hd : (decide ((48 : Int) ≤ (v : Int)) && decide ((v : Int) ≤ 57)) = false := by simp; omega
  have ne : ∀ c : Nat, v ≠ c → ((v : Int) == (c : Int)) = false := fun c hc => by simp; omega
  rw [hl, hd]
  have n1 := ne 47 k.2.1
  have n2 := ne 58 k.2.2.1
  have n3 := ne 46 k.2.2.2.1
  have n4 := ne 95 k.2.2.2.2.1
  have n5 := ne 45 k.2.2.2.2.2
  simp only [Bool.false_or]
  rw [show ((v : Int) == 47) = false from n1, show ((v : Int) == 58) = false from n2, show ((v : Int) == 46) = false from n3, show ((v : Int) == 95) = false from n4, show ((v : Int) == 45) = false from n5]; rfl
theorem okAt_rest {j v : Nat} (h : 1 ≤ j) (hr : restN v = true) : okAt j v = true := by unfold okAt; rw [if_neg (by omega)]; exact hr
theorem okAt_not {j v : Nat} (h : 1 ≤ j) (hr : restN v = false) : okAt j v = false := by unfold okAt; rw [if_neg (by omega)]; exact hr
theorem ok_step {s : ByteArray} {k v : Nat} {hlt : k < s.size} (hq : ∀ j, (h : j < s.size) → j < k → okAt j s[j].toNat = true) (hv : s[k].toNat = v) (hf : okAt k v = true) :
    ∀ j, (h : j < s.size) → j < k + 1 → okAt j s[j].toNat = true := fun j hj hk => by
  by_cases e : j = k
  · subst e; rw [hv]; exact hf
  · exact hq j hj (by omega)

set_option maxRecDepth 100000 in
theorem zLetter (n : Nat) (w : World) : Calls Tryz.prog 172 #[.int .u8 n] w fun e w' => e = .returned (.bool (letterN n)) ∧ w' = w := by
  have F := Lib.hid (show letterN n = (decide ((97 : Int) ≤ (n : Int)) && decide ((n : Int) ≤ 122) || decide ((65 : Int) ≤ (n : Int)) && decide ((n : Int) ≤ 90)) from rfl)
  cases h1 : decide ((97 : Int) ≤ (n : Int)) <;> cases h2 : decide ((n : Int) ≤ 122) <;> cases h3 : decide ((65 : Int) ≤ (n : Int)) <;> cases h4 : decide ((n : Int) ≤ 90)
  all_goals
    have F' := Lib.hid F.out
    rw [h1, h2, h3, h4] at F'
    clear F
    go_enter Tryz.func172, Tryz.ntmps172
    go_wp2
    go_ret
    rw [F'.out]; exact ⟨rfl, rfl⟩

/-- The index of a text, as the walk takes it. -/
theorem idx0 (s : ByteArray) (h : 0 < s.size) : ∃ v : Nat, s[0].toNat = v := ⟨_, rfl⟩

set_option maxRecDepth 100000 in
set_option maxHeartbeats 1000000 in
theorem zDenom (s : ByteArray) (w : World) (hs : s.size ≤ 9223372036854775807) : Calls Tryz.prog 155 #[.string s] w fun e w' => e = .returned (.bool (denomB s)) ∧ w' = w := by
  by_cases h1 : s.size < 3
  · have F := Lib.hid (denomB_short h1)
    have d1 : decide (s.size < 3) = true := by simpa using h1
    go_enter Tryz.func155, Tryz.ntmps155
    go_wp2
    go_ret
    rw [F.out]; exact ⟨rfl, rfl⟩
  · by_cases h2 : 128 < s.size
    · have F := Lib.hid (denomB_long h2)
      have d1 : decide (s.size < 3) = false := by simpa using h1
      have d2 : decide (128 < s.size) = true := by simpa using h2
      go_enter Tryz.func155, Tryz.ntmps155
      go_wp2
      go_ret
      rw [F.out]; exact ⟨rfl, rfl⟩
    · have d1 : decide (s.size < 3) = false := by simpa using h1
      have d2 : decide (128 < s.size) = false := by simpa using h2
      have h0 : 0 < s.size := by omega
      obtain ⟨n, hn⟩ : ∃ n : Nat, n = s[0].toNat := ⟨_, rfl⟩
      have hrun : ∀ W, (Instr.index 9 (.string s) (.int .i64 0)).run Tryz.prog W = .ok (.int .u8 (n : Int)) W := fun W => by subst hn; simp [go_sem, h0]
      have hok0 : okAt 0 n = letterN n := rfl
      have HN := Lib.hid hn; clear hn
      cases hL : letterN n
      · have F := Lib.hid (denomB_false 0 h0 (show okAt 0 s[0].toNat = false by rw [← HN.out, hok0, hL]))
        clear hok0
        go_enter Tryz.func155, Tryz.ntmps155
        go_wp2_with (go_at_call 172; refine (zLetter n _).mono ?_; rintro e w' ⟨rfl, rfl⟩)
        go_ret
        rw [F.out]; exact ⟨rfl, rfl⟩
      · have F0 := Lib.hid (show okAt 0 s[0].toNat = true by rw [← HN.out, hok0, hL])
        clear hok0
        go_enter Tryz.func155, Tryz.ntmps155
        go_wp2_with (go_at_call 172; refine (zLetter n _).mono ?_; rintro e w' ⟨rfl, rfl⟩)
        go_loop [3] (fun i => ∃ k : Nat, 1 ≤ k ∧ k ≤ s.size ∧ i = .int .i64 k ∧ ∀ j, (h : j < s.size) → j < k → okAt j s[j].toNat = true) (fun i => s.size - (intOf i).toNat)
        case atStart => exact ⟨1, Nat.le_refl _, by omega, rfl, fun j hj h => by
          obtain rfl : j = 0 := by omega
          exact F0.out⟩
        case round =>
          obtain ⟨k, hk1, hk, rfl, hq⟩ := hrel
          have HQ := Lib.hid hq; clear hq
          by_cases hlt : k < s.size
          · obtain ⟨v, hv⟩ : ∃ v : Nat, s[k].toNat = v := ⟨_, rfl⟩
            have hrunk : ∀ W, (Instr.index 9 (.string s) (.int .i64 (k : Int))).run Tryz.prog W = .ok (.int .u8 (v : Int)) W := fun W => by subst hv; simp [go_sem, hlt]
            have HV := Lib.hid hv; clear hv
            go_wp2_with (go_at_call 172; refine (zLetter v _).mono ?_; rintro e w' ⟨rfl, rfl⟩)
            all_goals first | (have hx : letterN v = true := (by assumption); have F := Lib.hid (okAt_rest hk1 (restN_letter hx)); go_round; all_goals first | exact ⟨k + 1, by omega, by omega, by go_num, ok_step HQ.out HV.out F.out⟩ | (simp [intOf]; omega)) | (have F := Lib.hid (okAt_rest hk1 (restN_other (v := v) (by omega))); go_round; all_goals first | exact ⟨k + 1, by omega, by omega, by go_num, ok_step HQ.out HV.out F.out⟩ | (simp [intOf]; omega)) | (have hx := ‹_ ∨ ((v : Int) != 45) = false›; have F := Lib.hid (okAt_rest hk1 (restN_other (v := v) (by simp at hx; omega))); go_round; all_goals first | exact ⟨k + 1, by omega, by omega, by go_num, ok_step HQ.out HV.out F.out⟩ | (simp [intOf]; omega)) | (have hx := ‹_ ∧ ((v : Int) != 45) = true›; have hy : ¬ letterN v = true := (by assumption); have F := Lib.hid (denomB_false k hlt (by rw [HV.out]; exact okAt_not hk1 (restN_false (v := v) hy (by simp at hx; omega)))); go_ret; rw [F.out]; exact ⟨rfl, rfl⟩)
          · obtain rfl : k = s.size := by omega
            have F := Lib.hid (denomB_true (s := s) (by omega) (by omega) (fun j h => HQ.out j h h))
            go_wp2
            go_ret
            rw [F.out]; exact ⟨rfl, rfl⟩
end Go.Proofs.YtagfbefgcijegaaGreatDoor
