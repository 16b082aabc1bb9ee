/-
  Contracts of the questions whether lists are sorted.
-/
import Derived.Test.YtagfbefgcijegaaGreatDoorList2
import Derived.Test.YtagfbefgcijegaaGreatDoorOrd
import Derived.BigQuiet
namespace Go.Proofs.YtagfbefgcijegaaGreatDoor
open Go Go.RowKit

set_option maxRecDepth 100000 in
set_option maxHeartbeats 400000 in
theorem tIsSorted (A : Option Addr) (n c : Nat) (l : List Co) (w : World) (hl : l.length = n) (hn : n ≤ 1000000) (h : RecAt w A (l.map Co.pair)) :
    Calls Tryz.prog 123 #[.slice A n c] w (RetQ (.bool (sortedB (l.map Co.s))) w) := by
  have HL := Lib.hid hl; have HP := Lib.hid h
  clear hl h
  go_enter Tryz.func123, Tryz.ntmps123
  go_wp2
  go_loopw [3] (fun i wr => ∃ (k q : Nat), (k ≤ n ∨ k = 1) ∧ 1 ≤ k ∧ i = .int .i64 k ∧ wr = w.drewN q ∧ ∀ j, (hj : j + 1 < l.length) → j + 1 < k → keyLt (Co.s l[j + 1]) (Co.s l[j]) = false) (fun i _ => n + 1 - (intOf i).toNat)
  case atStart => exact ⟨1, 0, Or.inr rfl, Nat.le_refl _, rfl, rfl, fun j _ h => by omega⟩
  case round =>
    obtain ⟨k, q, hk, hk1, rfl, rfl, hq⟩ := hrel
    have HQ := Lib.hid hq; clear hq
    by_cases hlt : k < n
    · obtain ⟨m, rfl⟩ : ∃ m, k = m + 1 := ⟨k - 1, by omega⟩
      have hkl : m + 1 < l.length := by rw [HL.out]; exact hlt
      obtain ⟨s, hs⟩ : ∃ s, s = Co.s l[m] := ⟨_, rfl⟩
      obtain ⟨t, ht⟩ : ∃ t, t = Co.s l[m + 1] := ⟨_, rfl⟩
      obtain ⟨g, o, hA, hc⟩ := HP.out (by intro e; have := congrArg List.length e; simp at this; rw [this] at hkl; simp at hkl)
      subst hA
      have cs0 : w.cell? ⟨g, o + m * 2, none⟩ = some (.string s) := by have := (hc m (by simp; omega)).1; rw [this, hs]; simp [Co.pair]
      have cs1 : w.cell? ⟨g, o + (m + 1) * 2, none⟩ = some (.string t) := by have := (hc (m + 1) (by simpa using hkl)).1; rw [this, ht]; simp [Co.pair]
      have HS := Lib.hid hs; have HT := Lib.hid ht; clear hs ht hc hk
      have b0 : (0 : Int) ≤ (m : Int) := by omega
      have b1 : (m : Int) < (n : Int) := by omega
      have b2 : (m : Int) + 1 < (n : Int) := by omega
      by_cases hgt : keyLt t s = true
      · have g1 : Op.bytesLess s.toList t.toList = false := keyLt_asymm hgt
        have g2 : (s.toList == t.toList) = false := by rw [key_beq]; simp; intro e; subst e; rw [keyLt_irrefl] at hgt; cases hgt
        have F := Lib.hid (show sortedB (l.map Co.s) = false from sortedB_false m (by simpa using hkl) (by simpa [← HS.out, ← HT.out] using hgt))
        clear hgt
        go_wp2
        go_quiet (fail)
        go_wp2
        go_ret
        rw [F.out]; exact ⟨rfl, by first | exact dr1 _ _ | exact dr2 _ _ _⟩
      · have hgt' : keyLt t s = false := by simpa using hgt
        have HG := Lib.hid hgt'
        clear hgt hgt'
        have hh : Op.bytesLess s.toList t.toList = true ∨ s = t := by
          cases e : Op.bytesLess s.toList t.toList
          · exact Or.inr (keyLt_tri e HG.out)
          · exact Or.inl rfl
        have HS' := HS; have HT' := HT
        rcases hh with hh | hh
        · go_wp2
          go_quiet (fail)
          go_wp2
          go_roundw
          case rel =>
            refine ⟨m + 1 + 1, _, by omega, by omega, by go_num, rfl, fun j hj hjk => ?_⟩
            by_cases e : j = m
            · subst e; rw [← HS'.out, ← HT'.out]; exact HG.out
            · exact HQ.out j hj (by omega)
          case measure => simp [intOf]; omega
        · subst hh
          go_wp2
          go_quiet (fail)
          go_wp2
          go_roundw
          case rel =>
            refine ⟨m + 1 + 1, _, by omega, by omega, by go_num, rfl, fun j hj hjk => ?_⟩
            by_cases e : j = m
            · subst e; rw [← HS'.out, ← HT'.out]; exact HG.out
            · exact HQ.out j hj (by omega)
          case measure => simp [intOf]; omega
    · have F := Lib.hid (show sortedB (l.map Co.s) = true from sortedB_true (fun j hj => by simp at hj; simpa using HQ.out j hj (by have := HL.out; omega)))
      go_wp2
      go_ret
      rw [F.out]; exact ⟨rfl, by first | exact dr1 _ _ | exact dr2 _ _ _⟩

set_option maxRecDepth 100000 in
set_option maxHeartbeats 400000 in
theorem sIsSorted (A : Option Addr) (n c : Nat) (l : List (ByteArray × Int)) (w : World) (hl : l.length = n) (hn : n ≤ 1000000) (h : RecAt w A (l.map plain)) :
    Calls Tryz.prog 23 #[.slice A n c] w (RetQ (.bool (sortedB (l.map Prod.fst))) w) := by
  have HL := Lib.hid hl; have HP := Lib.hid h
  clear hl h
  go_enter Tryz.func23, Tryz.ntmps23
  go_wp2
  go_loopw [3] (fun i wr => ∃ (k q : Nat), (k ≤ n ∨ k = 1) ∧ 1 ≤ k ∧ i = .int .i64 k ∧ wr = w.drewN q ∧ ∀ j, (hj : j + 1 < l.length) → j + 1 < k → keyLt (Prod.fst l[j + 1]) (Prod.fst l[j]) = false) (fun i _ => n + 1 - (intOf i).toNat)
  case atStart => exact ⟨1, 0, Or.inr rfl, Nat.le_refl _, rfl, rfl, fun j _ h => by omega⟩
  case round =>
    obtain ⟨k, q, hk, hk1, rfl, rfl, hq⟩ := hrel
    have HQ := Lib.hid hq; clear hq
    by_cases hlt : k < n
    · obtain ⟨m, rfl⟩ : ∃ m, k = m + 1 := ⟨k - 1, by omega⟩
      have hkl : m + 1 < l.length := by rw [HL.out]; exact hlt
      obtain ⟨s, hs⟩ : ∃ s, s = Prod.fst l[m] := ⟨_, rfl⟩
      obtain ⟨t, ht⟩ : ∃ t, t = Prod.fst l[m + 1] := ⟨_, rfl⟩
      obtain ⟨g, o, hA, hc⟩ := HP.out (by intro e; have := congrArg List.length e; simp at this; rw [this] at hkl; simp at hkl)
      subst hA
      have cs0 : w.cell? ⟨g, o + m * 2, none⟩ = some (.string s) := by have := (hc m (by simp; omega)).1; rw [this, hs]; simp [plain]
      have cs1 : w.cell? ⟨g, o + (m + 1) * 2, none⟩ = some (.string t) := by have := (hc (m + 1) (by simpa using hkl)).1; rw [this, ht]; simp [plain]
      have HS := Lib.hid hs; have HT := Lib.hid ht; clear hs ht hc hk
      have b0 : (0 : Int) ≤ (m : Int) := by omega
      have b1 : (m : Int) < (n : Int) := by omega
      have b2 : (m : Int) + 1 < (n : Int) := by omega
      by_cases hgt : keyLt t s = true
      · have g1 : Op.bytesLess s.toList t.toList = false := keyLt_asymm hgt
        have g2 : (s.toList == t.toList) = false := by rw [key_beq]; simp; intro e; subst e; rw [keyLt_irrefl] at hgt; cases hgt
        have F := Lib.hid (show sortedB (l.map Prod.fst) = false from sortedB_false m (by simpa using hkl) (by simpa [← HS.out, ← HT.out] using hgt))
        clear hgt
        go_wp2
        go_quiet (fail)
        go_wp2
        go_ret
        rw [F.out]; exact ⟨rfl, by first | exact dr1 _ _ | exact dr2 _ _ _⟩
      · have hgt' : keyLt t s = false := by simpa using hgt
        have HG := Lib.hid hgt'
        clear hgt hgt'
        have hh : Op.bytesLess s.toList t.toList = true ∨ s = t := by
          cases e : Op.bytesLess s.toList t.toList
          · exact Or.inr (keyLt_tri e HG.out)
          · exact Or.inl rfl
        have HS' := HS; have HT' := HT
        rcases hh with hh | hh
        · go_wp2
          go_quiet (fail)
          go_wp2
          go_roundw
          case rel =>
            refine ⟨m + 1 + 1, _, by omega, by omega, by go_num, rfl, fun j hj hjk => ?_⟩
            by_cases e : j = m
            · subst e; rw [← HS'.out, ← HT'.out]; exact HG.out
            · exact HQ.out j hj (by omega)
          case measure => simp [intOf]; omega
        · subst hh
          go_wp2
          go_quiet (fail)
          go_wp2
          go_roundw
          case rel =>
            refine ⟨m + 1 + 1, _, by omega, by omega, by go_num, rfl, fun j hj hjk => ?_⟩
            by_cases e : j = m
            · subst e; rw [← HS'.out, ← HT'.out]; exact HG.out
            · exact HQ.out j hj (by omega)
          case measure => simp [intOf]; omega
    · have F := Lib.hid (show sortedB (l.map Prod.fst) = true from sortedB_true (fun j hj => by simp at hj; simpa using HQ.out j hj (by have := HL.out; omega)))
      go_wp2
      go_ret
      rw [F.out]; exact ⟨rfl, by first | exact dr1 _ _ | exact dr2 _ _ _⟩


set_option maxRecDepth 100000 in
theorem tSorted (A : Option Addr) (n c : Nat) (l : List Co) (w : World) (hl : l.length = n) (hn : n ≤ 1000000) (h : RecAt w A (l.map Co.pair)) :
    Calls Tryz.prog 73 #[.slice A n c] w (RetQ (.bool (sortedB (l.map Co.s))) w) := by
  have H := Lib.hid (tIsSorted A n c l w hl hn h); clear hl hn h
  go_enter Tryz.func73, Tryz.ntmps73
  go_wp2_with (go_at_call 123; refine H.out.mono ?_; rintro e w' ⟨rfl, q, rfl⟩)
  go_ret
  exact ⟨rfl, q, rfl⟩
end Go.Proofs.YtagfbefgcijegaaGreatDoor
