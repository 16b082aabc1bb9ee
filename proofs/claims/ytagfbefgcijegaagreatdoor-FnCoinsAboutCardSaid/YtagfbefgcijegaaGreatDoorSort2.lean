/-
  Contracts of sort.Sort and its parts over coins: up to 12 coins; and coins in order.
-/
import Derived.Test.YtagfbefgcijegaaGreatDoorSort
namespace Go.Proofs.YtagfbefgcijegaaGreatDoor
open Go Go.RowKit

/-- Coins as a sort.Interface. -/
def sortV (g n c : Nat) : Value := .iface 71 (.slice (some ⟨g, 0, none⟩) n c)

set_option maxRecDepth 100000 in
set_option maxHeartbeats 1000000 in
theorem insSort (g n c : Nat) (L0 : List Co) (rest : List Value) (w : World) (h : Row w g L0 rest) (hl : L0.length = n) (hn : n ≤ 1000000) :
    Calls Tryz.prog 187 #[.iface 71 (.slice (some ⟨g, 0, none⟩) n c), .int .i64 0, .int .i64 n] w
      fun e w' => e = .returned (.tuple #[]) ∧ ∃ L, Row w' g L rest ∧ Only g w w' ∧ L.Perm L0 ∧ L.Pairwise fun a b => le (Co.s a) (Co.s b) := by
  have HR := Lib.hid h; have HL := Lib.hid hl
  clear h hl
  go_enter Tryz.func187, Tryz.ntmps187
  go_wp2
  go_loopw [6] (fun i wz => ∃ (k : Nat) (L : List Co), 1 ≤ k ∧ (k ≤ n ∨ k = 1) ∧ i = .int .i64 k ∧ Row wz g L rest ∧ Only g w wz ∧ InsO Co.s L0 L k) (fun i _ => n + 1 - (intOf i).toNat)
  case atStart => exact ⟨1, L0, Nat.le_refl _, Or.inr rfl, rfl, HR.out, Only.refl _ _, insO_start _⟩
  case round =>
    obtain ⟨k, L, hk1, hk, rfl, hb, ho, hins⟩ := hrel
    have HBz := Lib.hid hb; have HOz := Lib.hid ho; have HIz := Lib.hid hins
    clear hb ho hins
    have HLn := Lib.hid (show L.length = n by rw [HIz.out.1.length_eq, HL.out])
    by_cases hlt : k < n
    · go_wp2
      go_loopw [7] (fun i wz' => ∃ (j : Nat) (L' : List Co), i = .int .i64 j ∧ Row wz' g L' rest ∧ Only g w wz' ∧ InsI Co.s L0 L' k j) (fun i _ => (intOf i).toNat)
      case atStart => exact ⟨k, L, rfl, HBz.out, HOz.out, insO_in HIz.out (by rw [HLn.out]; exact hlt)⟩
      case round =>
        obtain ⟨j, L', rfl, hb, ho, hins⟩ := hrel
        have HBy := Lib.hid hb; have HOy := Lib.hid ho; have HIy := Lib.hid hins
        clear hb ho hins HBz HOz HIz HLn
        have HLy := Lib.hid (show L'.length = n by rw [HIy.out.1.length_eq, HL.out])
        rcases j with _ | j
        · go_wp2
          go_roundw
          case rel => exact ⟨k + 1, L', by omega, by omega, by go_num, HBy.out, HOy.out, insI_out0 HIy.out⟩
          case measure => simp [intOf]; omega
        · have hjl : j + 1 < L'.length := by have := HIy.out.2.1; have := HIy.out.2.2.1; omega
          have hjm : j + 1 < n := by rw [← HLy.out]; exact hjl
          obtain ⟨r, hr⟩ : ∃ r, r = keyLt (Co.s L'[j + 1]) (Co.s L'[j]) := ⟨_, rfl⟩
          have HC := Lib.hid (show Calls Tryz.prog 291 #[.slice (some ⟨g, 0, none⟩) n c, .int .i64 ((j : Int) + 1), .int .i64 j] wr (RetQ (.bool r) wr) by
            rw [hr]; exact cLess g n c L' rest wr HBy.out HLy.out (j + 1) j hjm (by omega))
          have HS := Lib.hid hr; clear hr
          cases r
          · go_wp2_with (first | (go_at_call 291; refine HC.out.mono ?_; rintro e w' ⟨rfl, q, rfl⟩))
            go_roundw
            case rel => exact ⟨k + 1, L', by omega, by omega, by go_num, HBy.out.drewN _, HOy.out.drewN _, insI_out HIy.out hjl HS.out.symm⟩
            case measure => simp [intOf]; omega
          · go_wp2_with (first | (go_at_call 291; refine HC.out.mono ?_; rintro e w' ⟨rfl, q, rfl⟩) | (go_at_call 293; refine (cSwap g n c L' rest _ (HBy.out.drewN _) HLy.out j hjm).mono ?_; rintro e w' ⟨rfl, hrow, honly⟩; have R := Lib.hid (And.intro hrow honly); clear hrow honly))
            go_roundw
            case rel => exact ⟨j, swp L' j, rfl, R.out.1, (HOy.out.drewN _).trans' R.out.2, insI_swp HIy.out hjl HS.out.symm⟩
            case measure => simp [intOf]
    · go_wp2
      go_end0
      obtain ⟨hP, hS⟩ := insO_end HIz.out (by rw [HLn.out]; omega)
      exact ⟨rfl, L, HBz.out, HOz.out, hP, hS⟩
end Go.Proofs.YtagfbefgcijegaaGreatDoor
