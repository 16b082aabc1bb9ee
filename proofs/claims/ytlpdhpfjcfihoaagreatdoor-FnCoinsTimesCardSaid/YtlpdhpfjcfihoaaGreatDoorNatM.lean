/-
  Contracts of nat's mulAddWW, and of mul by one word.
-/
import Derived.Test.YtlpdhpfjcfihoaaGreatDoorNatV
import Derived.Defers
namespace Go.Proofs.YtlpdhpfjcfihoaaGreatDoor
open Go Go.RowKit

theorem norm_len {ws : List Nat} (h : ws ≠ []) : 0 < ws.length := List.length_pos_iff.2 h

set_option maxRecDepth 100000 in
theorem gMulAddWW (A : Option Addr) (n0 c gz : Nat) (zs : List Nat) (B : Option Addr) (cb : Nat) (xs : List Nat) (m y r : Nat) (w : World) (hz : NatV w A c gz zs) (hx : Opd w gz c B cb xs) (hm : xs.length = m) (hn : m ≤ 100000) (hy : y < B64) (hr : r < B64) :
    Calls Tryz.prog 250 #[.slice A n0 c, .slice B m cb, .int .u64 y, .int .u64 r] w (RetN gz (natOf xs * y + r) w) := by
  by_cases h0 : m = 0 ∨ y = 0
  · have HS := Lib.hid (gSetWord A n0 c gz zs r w hz hr)
    have hv : natOf xs * y + r = r := by
      rcases h0 with h0 | h0
      · subst h0
        rw [List.eq_nil_of_length_eq_zero hm]; simp [natOf]
      · subst h0; simp
    rw [hv]
    clear hz hx hm hr hv
    by_cases hm0 : m = 0
    · subst hm0
      go_enter Tryz.func250, Tryz.ntmps250
      go_wp2_with (fail)
      go_at_call 198
      refine HS.out.mono ?_
      rintro e w1 ⟨A1, c1, g1, ws, rfl, hR⟩
      have HR := Lib.hid hR; clear hR
      go_wp2
      go_ret
      exact ⟨A1, c1, g1, ws, rfl, HR.out⟩
    · have e0 : ((m : Int) == 0) = false := by simp; omega
      obtain rfl : y = 0 := h0.resolve_left hm0
      go_enter Tryz.func250, Tryz.ntmps250
      go_wp2_with (fail)
      go_at_call 198
      refine HS.out.mono ?_
      rintro e w1 ⟨A1, c1, g1, ws, rfl, hR⟩
      have HR := Lib.hid hR; clear hR
      go_wp2
      go_ret
      exact ⟨A1, c1, g1, ws, rfl, HR.out⟩
  · have hm0 : ¬ m = 0 := fun k => h0 (Or.inl k)
    have hy0 : ¬ y = 0 := fun k => h0 (Or.inr k)
    have e0 : ((m : Int) == 0) = false := by simp; omega
    have e1 : ((y : Int) == 0) = false := by simp; omega
    have hne : xs ≠ [] := by intro e; subst e; simp at hm; omega
    have H := Lib.hid (gMake A n0 c gz zs (m + 1) w hz (by omega) (by omega))
    rw [show ((m + 1 : Nat) : Int) = (m : Int) + 1 by omega] at H
    have HX := Lib.hid hx; have HL := Lib.hid hm
    clear h0 hz hx hm
    obtain ⟨bx0, ox0, hB, _⟩ := HX.out.2.2 hne
    subst hB
    go_enter Tryz.func250, Tryz.ntmps250
    go_wp2_with (fail)
    go_at_call 209
    refine H.out.mono ?_
    rintro e w1 ⟨g, c', full, rfl, hc, hb, hl, hmd⟩
    obtain ⟨bx, ox, hA, hsrc⟩ := HX.out.src hne hmd
    injection hA with hA; injection hA with h1 h2 h3; subst h1; subst h2
    have HC := Lib.hid (vMulAddVWW g 0 c' bx0 ox0 cb y r full xs m w1 (by omega) hb (by omega) hsrc HL.out hy hr)
    have HB := Lib.hid hb; have HF := Lib.hid hl; have HM := Lib.hid hmd; clear hb hl hmd hsrc h3
    go_wp2_with (fail)
    go_at_call 279
    refine HC.out.mono ?_
    rintro e w2 ⟨ds, cc, rfl, hcc, hdl, hdb, hv, hwb, hon⟩
    obtain ⟨old, hold⟩ : ∃ old, w2.cell? ⟨g, m, none⟩ = some old := ⟨_, hwb.cell m _ (List.getElem?_eq_getElem (by rw [over_length (by have := HF.out; omega)]; have := HF.out; omega))⟩
    have hfz := hwb.frozen m
    have HW := Lib.hid (show WB (w2.setCell ⟨g, m, none⟩ (.int .u64 (cc : Int))) g (over full 0 (ds ++ [cc])) by
      have := hwb.set_ m cc hcc
      rw [show m = 0 + ds.length by omega] at this ⊢
      rwa [over_snoc cc (by have := HF.out; omega)] at this)
    have HN := Lib.hid (natNorm g 0 c' (ds ++ [cc]) (m + 1) (w2.setCell ⟨g, m, none⟩ (.int .u64 (cc : Int))) (by simp [hdl]) (by omega) hc.1 (wb_cells HW.out (by simp [hdl]; have := HF.out; omega)))
    rw [show ((m + 1 : Nat)) = m + 1 from rfl] at HN
    have HV := Lib.hid (show natOf (ds ++ [cc]) = natOf xs * y + r by rw [natOf_snoc, hdl, Nat.mul_comm]; exact hv)
    have HO := Lib.hid (hon.set_ m (.int .u64 (cc : Int))); have HDL := Lib.hid hdl
    clear hv hwb hon hdl hdb
    go_wp2_with (fail)
    go_at_call 212
    refine HN.out.mono ?_
    rintro e w3 ⟨es, rfl, rfl, he, hN, hve⟩
    have HE := Lib.hid he; have HEN := Lib.hid hN; have HEV := Lib.hid hve; clear he hN hve
    go_wp2
    go_ret
    exact norm_end HM.out HO.out HW.out HF.out (by omega) (by simp [HDL.out]; omega) HE.out HEN.out HEV.out HV.out
end Go.Proofs.YtlpdhpfjcfihoaaGreatDoor
