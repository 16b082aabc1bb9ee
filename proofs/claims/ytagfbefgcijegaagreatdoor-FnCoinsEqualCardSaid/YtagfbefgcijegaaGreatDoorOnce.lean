/-
  The contract of the reference's IsSumOnce.
-/
import Derived.Test.YtagfbefgcijegaaGreatDoorLKit
namespace Go.Proofs.YtagfbefgcijegaaGreatDoor
open Go Go.RowKit

/-- The first k names are all different. -/
def OnceI (l : List (ByteArray × Int)) (k : Nat) : Prop := ∀ i j, (hj : j < l.length) → (h : i < j) → j < k → l[i].1 ≠ l[j].1
theorem onceI_end {l : List (ByteArray × Int)} (h : OnceI l l.length) : onceB l = true := by
  unfold onceB; rw [decide_eq_true_iff, List.pairwise_iff_getElem]
  exact fun i j hi hj hij => h i j hj hij hj
theorem onceB_false {l : List (ByteArray × Int)} {i j : Nat} (hj : j < l.length) (h : i < j) (he : l[i].1 = l[j].1) : onceB l = false := by
  unfold onceB; rw [decide_eq_false_iff_not, List.pairwise_iff_getElem]
  exact fun k => k i j (by omega) hj h he

set_option maxRecDepth 100000 in
set_option maxHeartbeats 2000000 in
theorem sIsSumOnce (A : Option Addr) (n c : Nat) (l : List (ByteArray × Int)) (w : World) (hl : l.length = n) (hn : n ≤ 1000000) (h : PlainAt w A l) :
    Calls Tryz.prog 29 #[.slice A n c] w (RetQ (.bool (onceB l)) w) := by
  have HL := Lib.hid hl; have HP := Lib.hid h
  clear hl h
  go_enter Tryz.func29, Tryz.ntmps29
  go_wp2
  go_loopw [7] (fun i wr => ∃ (k q : Nat), k ≤ n ∧ i = .int .i64 k ∧ wr = w.drewN q ∧ OnceI l k) (fun i _ => n - (intOf i).toNat)
  case atStart => exact ⟨0, 0, Nat.zero_le _, rfl, rfl, fun i j _ _ h => absurd h (Nat.not_lt_zero _)⟩
  case round =>
    obtain ⟨k, q, hk, rfl, rfl, hq⟩ := hrel
    have HQ := Lib.hid hq; clear hq
    by_cases hlt : k < n
    · have hkl : k < l.length := by rw [HL.out]; exact hlt
      obtain ⟨s, hs⟩ : ∃ s, s = l[k].1 := ⟨_, rfl⟩
      obtain ⟨g, o, hA, hc⟩ := HP.out (by intro e; have := congrArg List.length e; simp at this; rw [this] at hkl; simp at hkl)
      subst hA
      have HC := Lib.hid hc
      have HS := Lib.hid hs
      have cs0 : w.cell? ⟨g, o + k * 2, none⟩ = some (.string s) := by rw [(hc k (by simpa using hkl)).1, hs]; simp [plain]
      clear hc hs
      have b0 : (0 : Int) ≤ (k : Int) := by omega
      have b1 : (k : Int) < (n : Int) := by omega
      go_wp2
      go_loopw [11] (fun i wz => ∃ (m p : Nat), m ≤ k ∧ i = .int .i64 m ∧ wz = w.drewN p ∧ ∀ j, (hj : j < l.length) → j < m → l[j].1 ≠ s) (fun i _ => k - (intOf i).toNat)
      case atStart => exact ⟨0, q, Nat.zero_le _, rfl, rfl, fun j _ h => absurd h (Nat.not_lt_zero _)⟩
      case round =>
        obtain ⟨m, p, hm, rfl, rfl, hq⟩ := hrel
        have HM := Lib.hid hq; clear hq
        by_cases hlt2 : m < k
        · have hml : m < l.length := by omega
          obtain ⟨t, ht⟩ : ∃ t, t = l[m].1 := ⟨_, rfl⟩
          have ct0 : w.cell? ⟨g, o + m * 2, none⟩ = some (.string t) := by rw [(HC.out m (by simpa using hml)).1, ht]; simp [plain]
          have HT := Lib.hid ht; clear ht
          have b2 : (0 : Int) ≤ (m : Int) := by omega
          have b3 : (m : Int) < (n : Int) := by omega
          by_cases hst : s = t
          · subst hst
            have F := Lib.hid (onceB_false hkl hlt2 (by rw [← HT.out, ← HS.out]))
            go_wp2
            go_quiet (fail)
            go_wp2
            go_ret
            rw [F.out]; exact ⟨rfl, by first | exact dr1 _ _ | exact dr2 _ _ _⟩
          · have hne : (s.toList == t.toList) = false := by rw [key_beq]; simpa using hst
            have F := Lib.hid hst
            clear hst
            go_wp2
            go_quiet (fail)
            go_wp2
            go_roundw
            case rel =>
              refine ⟨m + 1, _, by omega, by go_num, rfl, fun j hj hjm => ?_⟩
              by_cases e : j = m
              · subst e; rw [← HT.out]; exact fun e => F.out e.symm
              · exact HM.out j hj (by omega)
            case measure => simp [intOf]; omega
        · obtain rfl : m = k := by omega
          go_wp2
          go_roundw
          case rel =>
            refine ⟨m + 1, _, by omega, by go_num, rfl, fun i j hj hij hjm => ?_⟩
            by_cases e : j = m
            · subst e; rw [← HS.out]; exact HM.out i (by omega) hij
            · exact HQ.out i j hj hij (by omega)
          case measure => simp [intOf]; omega
    · obtain rfl : k = n := by omega
      have F := Lib.hid (onceI_end (l := l) (by rw [HL.out]; exact HQ.out))
      go_wp2
      go_ret
      rw [F.out]; exact ⟨rfl, by first | exact dr1 _ _ | exact dr2 _ _ _⟩
end Go.Proofs.YtagfbefgcijegaaGreatDoor
