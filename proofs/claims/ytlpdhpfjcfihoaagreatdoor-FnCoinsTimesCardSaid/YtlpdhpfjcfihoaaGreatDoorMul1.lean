/-
  Contracts of nat's mul where one factor has one word at most; of divW and div where the numerator has one word at most.
-/
import Derived.Test.YtlpdhpfjcfihoaaGreatDoorNatM
import Derived.Defers
namespace Go.Proofs.YtlpdhpfjcfihoaaGreatDoor
open Go Go.RowKit

set_option maxRecDepth 100000 in
theorem gMulA {stk : Value} (A : Option Addr) (n0 c gz : Nat) (zs : List Nat) (B D : Option Addr) (cb cd : Nat) (xs ys : List Nat) (m n : Nat) (w : World) (hz : NatV w A c gz zs) (hx : Opd w gz c B cb xs) (hy : Opd w gz c D cd ys) (hm : xs.length = m) (hn : ys.length = n) (hmx : m ≤ 100000) (h1 : n ≤ 1) (hle : n ≤ m) :
    Calls Tryz.prog 208 #[.slice A n0 c, stk, .slice B m cb, .slice D n cd] w (RetN gz (natOf xs * natOf ys) w) := by
  have e0 : decide ((m : Int) < (n : Int)) = false := by simp; omega
  by_cases hn0 : n = 0
  · subst hn0
    have hys : ys = [] := List.eq_nil_of_length_eq_zero hn
    have hv : natOf xs * natOf ys = 0 := by rw [hys]; simp [natOf]
    rw [hv]
    have HR := Lib.hid (retN_zero hz)
    clear hx hy hm hn hv
    have e0' : decide ((m : Int) < 0) = false := by simp
    by_cases hm0 : m = 0
    · subst hm0
      rcases hz with ⟨rfl, rfl, _⟩ | ⟨rfl, hc, _⟩
      · go_enter Tryz.func208, Tryz.ntmps208
        go_wp2
        go_ret
        exact HR.out
      · go_enter Tryz.func208, Tryz.ntmps208
        go_wp2
        go_ret
        exact HR.out
    · have e1 : ((m : Int) == 0) = false := by simp; omega
      rcases hz with ⟨rfl, rfl, _⟩ | ⟨rfl, hc, _⟩
      · go_enter Tryz.func208, Tryz.ntmps208
        go_wp2
        go_ret
        exact HR.out
      · go_enter Tryz.func208, Tryz.ntmps208
        go_wp2
        go_ret
        exact HR.out
  · obtain rfl : n = 1 := by omega
    obtain ⟨y, rfl⟩ := List.length_eq_one_iff.1 hn
    have e1 : ((m : Int) == 0) = false := by simp; omega
    obtain ⟨by0, oy, rfl, ⟨cs, hbl⟩, hcell, _⟩ := hy.2.2 (by simp)
    have hcy : w.cell? ⟨by0, oy, none⟩ = some (.int .u64 (y : Int)) := hcell 0 (by simp)
    have hyb := hy.1 y (by simp)
    have H := Lib.hid (gMulAddWW A n0 c gz zs B cb xs m y 0 w hz hx hm hmx hyb B64_pos)
    rw [show natOf xs * y + 0 = natOf xs * natOf [y] by rw [natOf_one]; rfl] at H
    have hcd : 1 ≤ cd := hy.2.1
    clear hz hx hy hm hn hcell hyb
    have e2 : decide ((m : Int) < 1) = false := by simp; omega
    go_enter Tryz.func208, Tryz.ntmps208
    go_wp2_with (fail)
    go_at_call 250
    refine H.out.mono ?_
    rintro e w1 ⟨A1, c1, g1, ws, rfl, hR⟩
    have HR := Lib.hid hR; clear hR
    go_wp2
    go_ret
    exact ⟨A1, c1, g1, ws, rfl, HR.out⟩

set_option maxRecDepth 100000 in
theorem gMul1 {stk : Value} (A : Option Addr) (n0 c gz : Nat) (zs : List Nat) (B D : Option Addr) (cb cd : Nat) (xs ys : List Nat) (m n : Nat) (w : World) (hz : NatV w A c gz zs) (hx : Opd w gz c B cb xs) (hy : Opd w gz c D cd ys) (hm : xs.length = m) (hn : ys.length = n) (hmx : m ≤ 100000) (hnx : n ≤ 100000) (h1 : n ≤ 1 ∨ m ≤ 1) :
    Calls Tryz.prog 208 #[.slice A n0 c, stk, .slice B m cb, .slice D n cd] w (RetN gz (natOf xs * natOf ys) w) := by
  by_cases hle : n ≤ m
  · exact gMulA A n0 c gz zs B D cb cd xs ys m n w hz hx hy hm hn hmx (by omega) hle
  · have H := Lib.hid (gMulA (stk := stk) A n0 c gz zs D B cd cb ys xs n m w hz hy hx hn hm hnx (by omega) (by omega))
    rw [Nat.mul_comm] at H
    have e0 : decide ((m : Int) < (n : Int)) = true := by simp; omega
    clear hz hx hy
    go_enter Tryz.func208, Tryz.ntmps208
    go_wp2_with (fail)
    go_at_call 208
    refine H.out.mono ?_
    rintro e w1 ⟨A1, c1, g1, ws, rfl, hR⟩
    have HR := Lib.hid hR; clear hR
    go_wp2
    go_ret
    exact ⟨A1, c1, g1, ws, rfl, HR.out⟩
end Go.Proofs.YtlpdhpfjcfihoaaGreatDoor
