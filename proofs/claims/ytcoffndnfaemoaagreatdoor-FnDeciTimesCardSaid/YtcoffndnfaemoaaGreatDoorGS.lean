/-
  The specification's numbers of 256 bits: plus, minus, below.
  The specification's numbers of 256 bits: below.
  The specification's numbers of 256 bits: times.
-/
import Derived.Test.YtcoffndnfaemoaaGreatDoorGP
import Derived.Test.YtcoffndnfaemoaaGreatDoorGC
import Derived.BigRegion
import Derived.Deep.RegionLaw
import Derived.Test.YtcoffndnfaemoaaGreatDoorGL
namespace Go.Proofs.YtcoffndnfaemoaaGreatDoor
open Go Go.RowKit

/-- A number without its k lowest words. -/
def D (M : Nat) : Nat → Nat
  | 0 => M
  | k + 1 => D M k / B64
abbrev dw (M k : Nat) : Value := .int .u64 ((D M k % B64 : Nat) : Int)
/-- A number of four words. -/
abbrev dn (M : Nat) : Value := .agg #[dw M 0, dw M 1, dw M 2, dw M 3]
abbrev dnBox (M : Nat) : Obj := .cells #[dw M 0, dw M 1, dw M 2, dw M 3] 37
def dwu (S j k : Nat) : Value := .int .u64 ((if j < k then D S j % B64 else 0 : Nat) : Int)
/-- The words laid so far. -/
def outs (S k : Nat) : List Value := [dwu S 0 k, dwu S 1 k, dwu S 2 k, dwu S 3 k]
theorem add_step (M N c : Nat) : (M + N + c) % B64 = (M % B64 + N % B64 + c) % B64 ∧ (M + N + c) / B64 = M / B64 + N / B64 + (M % B64 + N % B64 + c) / B64 := by unfold B64; omega
theorem add_carry (M N c : Nat) (hc : c ≤ 1) : (M % B64 + N % B64 + c) / B64 ≤ 1 := by unfold B64; omega

theorem Only.drewD {g : Nat} {w w' : World} (h : Only g w w') : Only g w w'.drew := ⟨h.os, h.tape, h.output, h.size, h.block⟩
set_option maxRecDepth 100000 in
set_option maxHeartbeats 2000000 in
theorem nPlus (M N : Nat) (w : World) : Calls Tryz.prog 95 #[dn M, dn N] w (RetE (dn (M + N)) w) := by
  obtain ⟨W, hW⟩ : ∃ W, W = (((w.alloc (dnBox M)).alloc (dnBox N)).alloc (.cells #[.int .u64 0, .int .u64 0, .int .u64 0, .int .u64 0] 37)).alloc (.cells #[.int .u64 0, .int .u64 0, .int .u64 0, .int .u64 0] 37) := ⟨_, rfl⟩
  have K0 := Lib.hid (show Blk W w.heap.size 37 [dw M 0, dw M 1, dw M 2, dw M 3] by rw [hW]; exact (((blk_new0 w 37 [dw M 0, dw M 1, dw M 2, dw M 3]).alloc _).alloc _).alloc _)
  have K1 := Lib.hid (show Blk W (w.heap.size + 1) 37 [dw N 0, dw N 1, dw N 2, dw N 3] by rw [hW]; exact ((blk_new1 w (dnBox M) 37 [dw N 0, dw N 1, dw N 2, dw N 3]).alloc _).alloc _)
  have K2 := Lib.hid (show Blk W (w.heap.size + 2) 37 [.int .u64 0, .int .u64 0, .int .u64 0, .int .u64 0] by rw [hW]; exact (blk_new2 w _ _ 37 [.int .u64 0, .int .u64 0, .int .u64 0, .int .u64 0]).alloc _)
  have K3 := Lib.hid (show Blk W (w.heap.size + 3) 37 (outs (M + N) 0) by rw [hW]; have h := blk_new0 (((w.alloc (dnBox M)).alloc (dnBox N)).alloc (.cells #[.int .u64 0, .int .u64 0, .int .u64 0, .int .u64 0] 37)) 37 [.int .u64 0, .int .u64 0, .int .u64 0, .int .u64 0]; rw [show (((w.alloc (dnBox M)).alloc (dnBox N)).alloc (.cells #[.int .u64 0, .int .u64 0, .int .u64 0, .int .u64 0] 37)).heap.size = w.heap.size + 3 by simp] at h; exact h)
  have HE := Lib.hid (show Ext w W by rw [hW]; exact (ext3 _ _ _ _).trans' (ext1 _ _))
  have HWW := Lib.hid hW; clear hW
  go_enter Tryz.func95, Tryz.ntmps95
  go_wp2_with (fail)
  rw [← HWW.out]
  go_loopw [6, 8] (fun c i wr => ∃ (k c0 : Nat), k ≤ 4 ∧ c0 ≤ 1 ∧ D (M + N) k = D M k + D N k + c0 ∧ i = .int .i64 k ∧ c = .int .u64 c0 ∧ Blk wr (w.heap.size + 3) 37 (outs (M + N) k) ∧ Only (w.heap.size + 3) W wr) (fun _ i _ => 4 - (intOf i).toNat)
  case atStart => exact ⟨0, 0, by omega, by omega, rfl, rfl, rfl, K3.out, Only.refl _ _⟩
  case round =>
    obtain ⟨k, c0, hk, hc, hd, rfl, rfl, hb, ho⟩ := hrel
    have ka : wr.cell? ⟨w.heap.size, k, none⟩ = [dw M 0, dw M 1, dw M 2, dw M 3][k]? := (ho.block' K0.out (by omega)).cell k
    have kb : wr.cell? ⟨w.heap.size + 1, k, none⟩ = [dw N 0, dw N 1, dw N 2, dw N 3][k]? := (ho.block' K1.out (by omega)).cell k
    have fo := hb.frozen k
    have co := hb.cell k
    have HO := Lib.hid ho; have HB := Lib.hid hb; have HD := Lib.hid hd
    have hst := add_step (D M k) (D N k) c0
    rw [← hd] at hst
    have HST := Lib.hid hst
    have HC := Lib.hid (add_carry (D M k) (D N k) c0 hc)
    have H := fun V => add64_run (D M k % B64) (D N k % B64) c0 hc V
    rw [← hst.1] at H
    obtain ⟨c1, hc1⟩ : ∃ c1, c1 = (D M k % B64 + D N k % B64 + c0) / B64 := ⟨_, rfl⟩
    rw [← hc1] at H HC HST
    have hl0 : w.heap.size < wr.heap.size := by have := (ho.block' K0.out (by omega)).lt; exact this
    have hl1 : w.heap.size + 1 < wr.heap.size := by have := (ho.block' K1.out (by omega)).lt; exact this
    have hl3 := hb.lt
    clear ho hb hd hst hc1
    rcases (by omega : k = 4 ∨ k = 0 ∨ k = 1 ∨ k = 2 ∨ k = 3) with rfl | hk'
    · have kr := HO.out.block' K2.out (by omega)
      have e0 : wr.cell? ⟨w.heap.size + 3, 0, none⟩ = some (dw (M + N) 0) := (HB.out.cell 0).trans rfl
      have e1 : wr.cell? ⟨w.heap.size + 3, 1, none⟩ = some (dw (M + N) 1) := (HB.out.cell 1).trans rfl
      have e2 : wr.cell? ⟨w.heap.size + 3, 2, none⟩ = some (dw (M + N) 2) := (HB.out.cell 2).trans rfl
      have e3 : wr.cell? ⟨w.heap.size + 3, 3, none⟩ = some (dw (M + N) 3) := (HB.out.cell 3).trans rfl
      have d0 : wr.cell? ⟨w.heap.size + 2, 0, none⟩ = some (.int .u64 0) := (kr.cell 0).trans rfl
      have d1 : wr.cell? ⟨w.heap.size + 2, 1, none⟩ = some (.int .u64 0) := (kr.cell 1).trans rfl
      have d2 : wr.cell? ⟨w.heap.size + 2, 2, none⟩ = some (.int .u64 0) := (kr.cell 2).trans rfl
      have d3 : wr.cell? ⟨w.heap.size + 2, 3, none⟩ = some (.int .u64 0) := (kr.cell 3).trans rfl
      have f0 := kr.frozen 0; have f1 := kr.frozen 1; have f2 := kr.frozen 2; have f3 := kr.frozen 3
      clear kr ka kb co fo H
      go_wp2
      exact bodyPost_ret (v := dn (M + N)) (by simp [results, Tryz.results95, go_sem, d0, d1, d2, d3]) rfl ⟨rfl, Only.ext (Only.ext HE.out HO.out (by omega)) (((((Only.refl _ _).set_ 0 _).set_ 1 _).set_ 2 _).set_ 3 _) (by omega)⟩
    · rcases hk' with rfl | rfl | rfl | rfl
      all_goals
        simp only [outs, List.getElem?_cons_zero, List.getElem?_cons_succ] at ka kb co
        go_wp2_with (fail)
        go_region
      all_goals go_wp2
      all_goals go_roundw
      all_goals
        first
        | (refine ⟨1, c1, by omega, HC.out, HST.out.2, rfl, rfl, ?_, (HO.out.set_ 0 _).drewD⟩; exact HB.out.set_ 0 _)
        | (refine ⟨2, c1, by omega, HC.out, HST.out.2, rfl, rfl, ?_, (HO.out.set_ 1 _).drewD⟩; exact HB.out.set_ 1 _)
        | (refine ⟨3, c1, by omega, HC.out, HST.out.2, rfl, rfl, ?_, (HO.out.set_ 2 _).drewD⟩; exact HB.out.set_ 2 _)
        | (refine ⟨4, c1, by omega, HC.out, HST.out.2, rfl, rfl, ?_, (HO.out.set_ 3 _).drewD⟩; exact HB.out.set_ 3 _)
        | (simp [intOf])
theorem sub_step (M N S c : Nat) (hc : c ≤ 1) (h : S + N + c = M) : S % B64 = (M % B64 + B64 - N % B64 - c) % B64 ∧ S / B64 + N / B64 + (if M % B64 < N % B64 + c then 1 else 0) = M / B64 := by
  unfold B64
  split <;> omega
theorem sub_carry (a b : Nat) : (if a < b then 1 else 0 : Nat) ≤ 1 := by split <;> omega

set_option maxRecDepth 100000 in
set_option maxHeartbeats 2000000 in
theorem nMinus (M N : Nat) (w : World) (hle : N ≤ M) : Calls Tryz.prog 97 #[dn M, dn N] w (RetE (dn (M - N)) w) := by
  obtain ⟨W, hW⟩ : ∃ W, W = (((w.alloc (dnBox M)).alloc (dnBox N)).alloc (.cells #[.int .u64 0, .int .u64 0, .int .u64 0, .int .u64 0] 37)).alloc (.cells #[.int .u64 0, .int .u64 0, .int .u64 0, .int .u64 0] 37) := ⟨_, rfl⟩
  have K0 := Lib.hid (show Blk W w.heap.size 37 [dw M 0, dw M 1, dw M 2, dw M 3] by rw [hW]; exact (((blk_new0 w 37 [dw M 0, dw M 1, dw M 2, dw M 3]).alloc _).alloc _).alloc _)
  have K1 := Lib.hid (show Blk W (w.heap.size + 1) 37 [dw N 0, dw N 1, dw N 2, dw N 3] by rw [hW]; exact ((blk_new1 w (dnBox M) 37 [dw N 0, dw N 1, dw N 2, dw N 3]).alloc _).alloc _)
  have K2 := Lib.hid (show Blk W (w.heap.size + 2) 37 [.int .u64 0, .int .u64 0, .int .u64 0, .int .u64 0] by rw [hW]; exact (blk_new2 w _ _ 37 [.int .u64 0, .int .u64 0, .int .u64 0, .int .u64 0]).alloc _)
  have K3 := Lib.hid (show Blk W (w.heap.size + 3) 37 (outs (M - N) 0) by rw [hW]; have h := blk_new0 (((w.alloc (dnBox M)).alloc (dnBox N)).alloc (.cells #[.int .u64 0, .int .u64 0, .int .u64 0, .int .u64 0] 37)) 37 [.int .u64 0, .int .u64 0, .int .u64 0, .int .u64 0]; rw [show (((w.alloc (dnBox M)).alloc (dnBox N)).alloc (.cells #[.int .u64 0, .int .u64 0, .int .u64 0, .int .u64 0] 37)).heap.size = w.heap.size + 3 by simp] at h; exact h)
  have HE := Lib.hid (show Ext w W by rw [hW]; exact (ext3 _ _ _ _).trans' (ext1 _ _))
  have HWW := Lib.hid hW; clear hW
  go_enter Tryz.func97, Tryz.ntmps97
  go_wp2_with (fail)
  rw [← HWW.out]
  go_loopw [6, 8] (fun c i wr => ∃ (k c0 : Nat), k ≤ 4 ∧ c0 ≤ 1 ∧ D (M - N) k + D N k + c0 = D M k ∧ i = .int .i64 k ∧ c = .int .u64 c0 ∧ Blk wr (w.heap.size + 3) 37 (outs (M - N) k) ∧ Only (w.heap.size + 3) W wr) (fun _ i _ => 4 - (intOf i).toNat)
  case atStart => exact ⟨0, 0, by omega, by omega, (by show M - N + N + 0 = M; omega), rfl, rfl, K3.out, Only.refl _ _⟩
  case round =>
    obtain ⟨k, c0, hk, hc, hd, rfl, rfl, hb, ho⟩ := hrel
    have ka : wr.cell? ⟨w.heap.size, k, none⟩ = [dw M 0, dw M 1, dw M 2, dw M 3][k]? := (ho.block' K0.out (by omega)).cell k
    have kb : wr.cell? ⟨w.heap.size + 1, k, none⟩ = [dw N 0, dw N 1, dw N 2, dw N 3][k]? := (ho.block' K1.out (by omega)).cell k
    have fo := hb.frozen k
    have co := hb.cell k
    have HO := Lib.hid ho; have HB := Lib.hid hb; have HD := Lib.hid hd
    have hst := sub_step (D M k) (D N k) (D (M - N) k) c0 hc hd
    have HC := Lib.hid (sub_carry (D M k % B64) (D N k % B64 + c0))
    have H := fun V => sub64_run (D M k % B64) (D N k % B64) c0 hc V
    rw [← hst.1] at H
    obtain ⟨c1, hc1⟩ : ∃ c1 : Nat, c1 = (if D M k % B64 < D N k % B64 + c0 then 1 else 0) := ⟨_, rfl⟩
    rw [← hc1] at H HC hst
    have HST := Lib.hid hst
    have hl0 : w.heap.size < wr.heap.size := by have := (ho.block' K0.out (by omega)).lt; exact this
    have hl1 : w.heap.size + 1 < wr.heap.size := by have := (ho.block' K1.out (by omega)).lt; exact this
    have hl3 := hb.lt
    clear ho hb hd hst hc1
    rcases (by omega : k = 4 ∨ k = 0 ∨ k = 1 ∨ k = 2 ∨ k = 3) with rfl | hk'
    · have kr := HO.out.block' K2.out (by omega)
      have e0 : wr.cell? ⟨w.heap.size + 3, 0, none⟩ = some (dw (M - N) 0) := (HB.out.cell 0).trans rfl
      have e1 : wr.cell? ⟨w.heap.size + 3, 1, none⟩ = some (dw (M - N) 1) := (HB.out.cell 1).trans rfl
      have e2 : wr.cell? ⟨w.heap.size + 3, 2, none⟩ = some (dw (M - N) 2) := (HB.out.cell 2).trans rfl
      have e3 : wr.cell? ⟨w.heap.size + 3, 3, none⟩ = some (dw (M - N) 3) := (HB.out.cell 3).trans rfl
      have d0 : wr.cell? ⟨w.heap.size + 2, 0, none⟩ = some (.int .u64 0) := (kr.cell 0).trans rfl
      have d1 : wr.cell? ⟨w.heap.size + 2, 1, none⟩ = some (.int .u64 0) := (kr.cell 1).trans rfl
      have d2 : wr.cell? ⟨w.heap.size + 2, 2, none⟩ = some (.int .u64 0) := (kr.cell 2).trans rfl
      have d3 : wr.cell? ⟨w.heap.size + 2, 3, none⟩ = some (.int .u64 0) := (kr.cell 3).trans rfl
      have f0 := kr.frozen 0; have f1 := kr.frozen 1; have f2 := kr.frozen 2; have f3 := kr.frozen 3
      clear kr ka kb co fo H
      go_wp2
      exact bodyPost_ret (v := dn (M - N)) (by simp [results, Tryz.results97, go_sem, d0, d1, d2, d3]) rfl ⟨rfl, Only.ext (Only.ext HE.out HO.out (by omega)) (((((Only.refl _ _).set_ 0 _).set_ 1 _).set_ 2 _).set_ 3 _) (by omega)⟩
    · rcases hk' with rfl | rfl | rfl | rfl
      all_goals
        simp only [outs, List.getElem?_cons_zero, List.getElem?_cons_succ] at ka kb co
        go_wp2_with (fail)
        go_region
      all_goals go_wp2
      all_goals go_roundw
      all_goals
        first
        | (refine ⟨1, c1, by omega, HC.out, HST.out.2, rfl, rfl, ?_, (HO.out.set_ 0 _).drewD⟩; exact HB.out.set_ 0 _)
        | (refine ⟨2, c1, by omega, HC.out, HST.out.2, rfl, rfl, ?_, (HO.out.set_ 1 _).drewD⟩; exact HB.out.set_ 1 _)
        | (refine ⟨3, c1, by omega, HC.out, HST.out.2, rfl, rfl, ?_, (HO.out.set_ 2 _).drewD⟩; exact HB.out.set_ 2 _)
        | (refine ⟨4, c1, by omega, HC.out, HST.out.2, rfl, rfl, ?_, (HO.out.set_ 3 _).drewD⟩; exact HB.out.set_ 3 _)
        | (simp [intOf])
end Go.Proofs.YtcoffndnfaemoaaGreatDoor

namespace Go.Proofs.YtcoffndnfaemoaaGreatDoor
open Go Go.RowKit

theorem D_lt {M N : Nat} (j : Nat) (h : D M j < D N j) : M < N := by
  induction j with
  | zero => exact h
  | succ j ih =>
    refine ih ?_
    rcases Nat.lt_or_ge (D M j) (D N j) with h1 | h1
    · exact h1
    · have := Nat.div_le_div_right (c := B64) h1
      have h2 : D M j / B64 < D N j / B64 := h
      omega
theorem D_same {M N j : Nat} (h : D M (j + 1) = D N (j + 1)) (k : D M j % B64 = D N j % B64) : D M j = D N j := by
  have h : D M j / B64 = D N j / B64 := h
  rw [← Nat.div_add_mod (D M j) B64, ← Nat.div_add_mod (D N j) B64, h, k]
theorem D_less {M N j : Nat} (h : D M (j + 1) = D N (j + 1)) (k : D M j % B64 < D N j % B64) : M < N := by
  have h : D M j / B64 = D N j / B64 := h
  refine D_lt j ?_
  rw [← Nat.div_add_mod (D M j) B64, ← Nat.div_add_mod (D N j) B64, h]
  omega
theorem D_four {M : Nat} (h : M < B64 ^ 4) : D M 4 = 0 := by
  show M / B64 / B64 / B64 / B64 = 0
  rw [Nat.div_div_eq_div_mul, Nat.div_div_eq_div_mul, Nat.div_div_eq_div_mul]
  exact Nat.div_eq_of_lt (by rw [show B64 * (B64 * (B64 * B64)) = B64 ^ 4 by simp [Nat.pow_succ, Nat.mul_assoc]]; exact h)

set_option maxRecDepth 100000 in
set_option maxHeartbeats 2000000 in
theorem nBelow (M N : Nat) (w : World) (hM : M < B64 ^ 4) (hN : N < B64 ^ 4) : Calls Tryz.prog 96 #[dn M, dn N] w (RetE (.bool (decide (M < N))) w) := by
  obtain ⟨W, hW⟩ : ∃ W, W = (w.alloc (dnBox M)).alloc (dnBox N) := ⟨_, rfl⟩
  have K0 := Lib.hid (show Blk W w.heap.size 37 [dw M 0, dw M 1, dw M 2, dw M 3] by rw [hW]; exact (blk_new0 w 37 [dw M 0, dw M 1, dw M 2, dw M 3]).alloc _)
  have K1 := Lib.hid (show Blk W (w.heap.size + 1) 37 [dw N 0, dw N 1, dw N 2, dw N 3] by rw [hW]; exact blk_new1 w (dnBox M) 37 [dw N 0, dw N 1, dw N 2, dw N 3])
  have HE := Lib.hid (show Ext w W by rw [hW]; exact ext2 _ _ _)
  have HWW := Lib.hid hW; clear hW
  have H4 := Lib.hid (show D M 4 = D N 4 by rw [D_four hM, D_four hN])
  clear hM hN
  obtain ⟨r, hr⟩ : ∃ r, r = decide (M < N) := ⟨_, rfl⟩
  rw [← hr]
  have HR := Lib.hid hr; clear hr
  go_enter Tryz.func96, Tryz.ntmps96
  go_wp2_with (fail)
  rw [← HWW.out]
  go_loopw [5] (fun i wr => ∃ (m : Nat), m ≤ 4 ∧ i = .int .i64 (3 - (m : Int)) ∧ D M (4 - m) = D N (4 - m) ∧ Ext W wr) (fun i _ => match i with | .int _ n => (n + 1).toNat | _ => 0)
  case atStart => exact ⟨0, by omega, rfl, H4.out, Ext.refl _⟩
  case round =>
    obtain ⟨m, hm, rfl, hd, ho⟩ := hrel
    have HO := Lib.hid ho; have HD := Lib.hid hd
    rcases (by omega : m = 4 ∨ m < 4) with rfl | hm4
    · obtain rfl : r = false := by rw [HR.out]; have h : M = N := HD.out; subst h; simp
      clear ho hd
      go_wp2
      go_ret
      exact ⟨rfl, HE.out.trans' HO.out⟩
    · obtain ⟨j, hj⟩ : ∃ j, j = 3 - m := ⟨_, rfl⟩
      obtain ⟨x, hx⟩ : ∃ x, x = D M j % B64 := ⟨_, rfl⟩
      obtain ⟨y, hy⟩ : ∃ y, y = D N j % B64 := ⟨_, rfl⟩
      have hd' : D M (j + 1) = D N (j + 1) := by rw [show j + 1 = 4 - m by omega]; exact hd
      have ka : wr.cell? ⟨w.heap.size, j, none⟩ = some (.int .u64 (x : Int)) := by
        rw [(K0.out.ext ho).cell j, hx]
        rcases (by omega : j = 0 ∨ j = 1 ∨ j = 2 ∨ j = 3) with rfl | rfl | rfl | rfl <;> rfl
      have kb : wr.cell? ⟨w.heap.size + 1, j, none⟩ = some (.int .u64 (y : Int)) := by
        rw [(K1.out.ext ho).cell j, hy]
        rcases (by omega : j = 0 ∨ j = 1 ∨ j = 2 ∨ j = 3) with rfl | rfl | rfl | rfl <;> rfl
      have HX := Lib.hid hx; have HY := Lib.hid hy; have HD2 := Lib.hid hd'; have HJ := Lib.hid hj
      have HDS := Lib.hid (fun (e : x = y) => show D M (4 - (m + 1)) = D N (4 - (m + 1)) by rw [show 4 - (m + 1) = j by omega]; exact D_same hd' (by rw [← hx, ← hy, e]))
      clear ho hd hd' hx hy
      rcases (by omega : m = 0 ∨ m = 1 ∨ m = 2 ∨ m = 3) with rfl | rfl | rfl | rfl
      all_goals (obtain rfl := hj)
      all_goals (
        by_cases hxy : x = y
        · subst hxy
          go_wp2_with (fail)
          go_region
          all_goals go_wp2
          go_roundw
          case rel =>
            first | exact ⟨1, by omega, rfl, HDS.out (by trivial), HO.out.trans' (Ext.drewN' _ 1)⟩ | exact ⟨2, by omega, rfl, HDS.out (by trivial), HO.out.trans' (Ext.drewN' _ 1)⟩ | exact ⟨3, by omega, rfl, HDS.out (by trivial), HO.out.trans' (Ext.drewN' _ 1)⟩ | exact ⟨4, by omega, rfl, HDS.out (by trivial), HO.out.trans' (Ext.drewN' _ 1)⟩
          case measure => simp
        · have hne : ¬ (x : Int) = (y : Int) := by omega
          by_cases hlt : x < y
          · obtain rfl : r = true := by rw [HR.out]; exact decide_eq_true (D_less HD2.out (by rw [← HX.out, ← HY.out]; exact hlt))
            have hl : (x : Int) < (y : Int) := by omega
            go_wp2_with (fail)
            go_region
            all_goals (go_wp2_with (fail); go_region)
            all_goals go_wp2
            all_goals go_ret
            all_goals exact ⟨rfl, (HE.out.trans' HO.out).trans' (Ext.drewN' _ 2)⟩
          · obtain rfl : r = false := by rw [HR.out]; exact decide_eq_false (Nat.lt_asymm (D_less HD2.out.symm (by rw [← HX.out, ← HY.out]; omega)))
            have hl : ¬ (x : Int) < (y : Int) := by omega
            go_wp2_with (fail)
            go_region
            all_goals (go_wp2_with (fail); go_region)
            all_goals go_wp2
            all_goals go_ret
            all_goals exact ⟨rfl, (HE.out.trans' HO.out).trans' (Ext.drewN' _ 2)⟩)
end Go.Proofs.YtcoffndnfaemoaaGreatDoor

namespace Go.Proofs.YtcoffndnfaemoaaGreatDoor
open Go Go.RowKit Go.Shelf

theorem bitsMul64 (x y : Nat) (hx : x < B64) (hy : y < B64) (w : World) : Calls Tryz.prog 93 #[.int .u64 x, .int .u64 y] w fun e w' => e = .returned (.tuple #[.int .u64 ((x * y / B64 : Nat) : Int), .int .u64 ((x * y % B64 : Nat) : Int)]) ∧ w' = w :=
  Any.bits_Mul64 { laysM with } x y hx hy w
theorem D_pow (M j : Nat) : D M j = M / B64 ^ j := by
  induction j with
  | zero => simp [D]
  | succ j ih => show D M j / B64 = _; rw [ih, Nat.div_div_eq_div_mul, Nat.pow_succ]
theorem dmul_step (Y Z a c X : Nat) (h : X = Y + a * Z + c) : X % B64 = (Y % B64 + a * (Z % B64) + c) % B64 ∧ X / B64 = Y / B64 + a * (Z / B64) + (Y % B64 + a * (Z % B64) + c) / B64 := by
  have e : a * Z = B64 * (a * (Z / B64)) + a * (Z % B64) := by
    conv => lhs; rw [← Nat.div_add_mod Z B64, Nat.mul_add]
    rw [Nat.mul_left_comm]
  rw [e] at h
  generalize a * (Z / B64) = u at *
  generalize a * (Z % B64) = v at *
  subst h
  unfold B64; omega
theorem mul_words (y q c : Nat) (hy : y < B64) (hc : c < B64) (hq : q ≤ (B64 - 1) * (B64 - 1)) :
    (((q % B64 + y + 0) % B64 + c + 0) % B64 = (y + q + c) % B64 ∧ q / B64 + (q % B64 + y + 0) / B64 + ((q % B64 + y + 0) % B64 + c + 0) / B64 = (y + q + c) / B64) ∧ (y + q + c) / B64 < B64 := by
  unfold B64 at *; omega
theorem mul_facts (Y Z a c X q hi lo l1 x1 l2 y1 c1 : Nat) (hd : X = Y + a * Z + c) (ha : a < B64) (hc : c < B64) (hq : q = a * (Z % B64)) (hhi : hi = q / B64) (hlo : lo = q % B64) (hl1 : l1 = (lo + Y % B64 + 0) % B64) (hx1 : x1 = (lo + Y % B64 + 0) / B64) (hl2 : l2 = (l1 + c + 0) % B64) (hy1 : y1 = (l1 + c + 0) / B64) (hc1 : c1 = hi + x1 + y1) :
    l2 = X % B64 ∧ X / B64 = Y / B64 + a * (Z / B64) + c1 ∧ c1 < B64 ∧ IntKind.u64.wrap ((hi : Int) + (x1 : Int)) = (hi : Int) + (x1 : Int) ∧ IntKind.u64.wrap ((hi : Int) + (x1 : Int) + (y1 : Int)) = (c1 : Int) := by
  have hyb : Y % B64 < B64 := Nat.mod_lt _ B64_pos
  have hzb : Z % B64 < B64 := Nat.mod_lt _ B64_pos
  have hst := dmul_step _ _ _ _ _ hd
  have hqb : q ≤ (B64 - 1) * (B64 - 1) := by rw [hq]; exact Nat.mul_le_mul (by omega) (by omega)
  have hmw := mul_words (Y % B64) q c hyb hc hqb
  rw [← hq] at hst
  rw [← hlo, ← hl1, ← hl2, ← hhi, ← hx1, ← hy1, ← hc1] at hmw
  have hc1b : c1 < B64 := by rw [hmw.1.2]; exact hmw.2
  refine ⟨by rw [hst.1, hmw.1.1], by rw [hst.2, hmw.1.2], hc1b, ?_, ?_⟩
  · rw [IntKind.wrap_u64]; unfold B64 at hc1b; omega
  · rw [IntKind.wrap_u64]; unfold B64 at hc1b; omega
/-- The product with the n lowest words. -/
def TT (M N : Nat) : Nat → Nat
  | 0 => 0
  | n + 1 => TT M N n + D M n % B64 * N * B64 ^ n
theorem TT_all (M N n : Nat) : TT M N n + D M n * N * B64 ^ n = M * N := by
  induction n with
  | zero => simp [TT, D]
  | succ n ih =>
    rw [← ih]
    show TT M N n + D M n % B64 * N * B64 ^ n + D M n / B64 * N * B64 ^ (n + 1) = _
    conv => rhs; rw [← Nat.div_add_mod (D M n) B64]
    rw [Nat.pow_succ, Nat.add_mul, Nat.add_mul, Nat.add_assoc, Nat.add_comm (D M n % B64 * N * B64 ^ n)]
    congr 2
    simp only [Nat.mul_assoc, Nat.mul_left_comm, Nat.mul_comm]
theorem D_add (T x n : Nat) : D (T + x * B64 ^ n) n = D T n + x := by
  rw [D_pow, D_pow, Nat.add_mul_div_right _ _ (Nat.pow_pos B64_pos)]
theorem D_low (T x n j : Nat) (h : j < n) : D (T + x * B64 ^ n) j % B64 = D T j % B64 := by
  rw [D_pow, D_pow, show B64 ^ n = B64 ^ (n - j - 1) * B64 * B64 ^ j by rw [← Nat.pow_succ, ← Nat.pow_add]; congr 1; omega, ← Nat.mul_assoc, Nat.add_mul_div_right _ _ (Nat.pow_pos B64_pos), ← Nat.mul_assoc, Nat.add_mul_mod_self_right]
theorem D_zero (j : Nat) : D 0 j = 0 := by rw [D_pow]; simp
theorem dw_zero (j : Nat) : dw 0 j = .int .u64 0 := by unfold dw; rw [D_zero]; rfl
/-- The words of the new number below, of the old one above. -/
def mwd (T T' j k : Nat) : Value := if j < k then dw T' j else dw T j
def mw (T T' k : Nat) : List Value := [mwd T T' 0 k, mwd T T' 1 k, mwd T T' 2 k, mwd T T' 3 k]
theorem mw_low (T x n : Nat) : mw T (T + x * B64 ^ n) n = [dw T 0, dw T 1, dw T 2, dw T 3] := by
  have h : ∀ j, mwd T (T + x * B64 ^ n) j n = dw T j := fun j => by
    unfold mwd
    split
    · next hj => unfold dw; rw [D_low _ _ _ _ hj]
    · rfl
  unfold mw; rw [h, h, h, h]

theorem blk_mw {W : World} {g i : Nat} {t : TypeId} {L L' : List Value} {u : Value} (h : Blk W g t L) (e : L.set i u = L') : Blk (W.setCell ⟨g, i, none⟩ u).drew g t L' := by subst e; exact h.set_ i u
theorem TT_four (M N : Nat) (hM : M < B64 ^ 4) : TT M N 4 = M * N := by
  have h := TT_all M N 4
  rw [D_four hM, Nat.zero_mul, Nat.zero_mul, Nat.add_zero] at h
  exact h
theorem mw_set (T T' j : Nat) (hj : j < 4) : (mw T T' j).set j (dw T' j) = mw T T' (j + 1) := by
  rcases (by omega : j = 0 ∨ j = 1 ∨ j = 2 ∨ j = 3) with rfl | rfl | rfl | rfl <;> rfl

set_option maxRecDepth 100000 in
set_option maxHeartbeats 4000000 in
theorem nTimes (M N : Nat) (w : World) (hM : M < B64 ^ 4) : Calls Tryz.prog 56 #[dn M, dn N] w (RetE (dn (M * N)) w) := by
  obtain ⟨W, hW⟩ : ∃ W, W = (((w.alloc (dnBox M)).alloc (dnBox N)).alloc (.cells #[.int .u64 0, .int .u64 0, .int .u64 0, .int .u64 0] 37)).alloc (.cells #[.int .u64 0, .int .u64 0, .int .u64 0, .int .u64 0] 37) := ⟨_, rfl⟩
  have K0 := Lib.hid (show Blk W w.heap.size 37 [dw M 0, dw M 1, dw M 2, dw M 3] by rw [hW]; exact (((blk_new0 w 37 [dw M 0, dw M 1, dw M 2, dw M 3]).alloc _).alloc _).alloc _)
  have K1 := Lib.hid (show Blk W (w.heap.size + 1) 37 [dw N 0, dw N 1, dw N 2, dw N 3] by rw [hW]; exact ((blk_new1 w (dnBox M) 37 [dw N 0, dw N 1, dw N 2, dw N 3]).alloc _).alloc _)
  have K2 := Lib.hid (show Blk W (w.heap.size + 2) 37 [.int .u64 0, .int .u64 0, .int .u64 0, .int .u64 0] by rw [hW]; exact (blk_new2 w _ _ 37 [.int .u64 0, .int .u64 0, .int .u64 0, .int .u64 0]).alloc _)
  have K3 := Lib.hid (show Blk W (w.heap.size + 3) 37 [dw (TT M N 0) 0, dw (TT M N 0) 1, dw (TT M N 0) 2, dw (TT M N 0) 3] by rw [hW]; have h := blk_new0 (((w.alloc (dnBox M)).alloc (dnBox N)).alloc (.cells #[.int .u64 0, .int .u64 0, .int .u64 0, .int .u64 0] 37)) 37 [.int .u64 0, .int .u64 0, .int .u64 0, .int .u64 0]; rw [show (((w.alloc (dnBox M)).alloc (dnBox N)).alloc (.cells #[.int .u64 0, .int .u64 0, .int .u64 0, .int .u64 0] 37)).heap.size = w.heap.size + 3 by simp] at h; rw [show TT M N 0 = 0 from rfl, dw_zero, dw_zero, dw_zero, dw_zero]; exact h)
  have HE := Lib.hid (show Ext w W by rw [hW]; exact (ext3 _ _ _ _).trans' (ext1 _ _))
  have HT := Lib.hid (TT_four M N hM)
  have HWW := Lib.hid hW; clear hW hM
  go_enter Tryz.func56, Tryz.ntmps56
  go_wp2_with (fail)
  rw [← HWW.out]
  go_loopw [13] (fun i wr => ∃ n : Nat, n ≤ 4 ∧ i = .int .i64 n ∧ Blk wr (w.heap.size + 3) 37 [dw (TT M N n) 0, dw (TT M N n) 1, dw (TT M N n) 2, dw (TT M N n) 3] ∧ Only (w.heap.size + 3) W wr) (fun i _ => 4 - (intOf i).toNat)
  case atStart => exact ⟨0, by omega, rfl, K3.out, Only.refl _ _⟩
  case round =>
    obtain ⟨n, hn, rfl, hb, ho⟩ := hrel
    obtain ⟨W1, hW1⟩ : ∃ W1, W1 = wr := ⟨_, rfl⟩
    subst hW1
    have HO := Lib.hid ho; have HB := Lib.hid hb
    clear ho hb
    rcases (by omega : n = 4 ∨ n < 4) with rfl | hn4
    · have kr := HO.out.block' K2.out (by omega)
      rw [HT.out] at HB
      have e0 : W1.cell? ⟨w.heap.size + 3, 0, none⟩ = some (dw (M * N) 0) := (HB.out.cell 0).trans rfl
      have e1 : W1.cell? ⟨w.heap.size + 3, 1, none⟩ = some (dw (M * N) 1) := (HB.out.cell 1).trans rfl
      have e2 : W1.cell? ⟨w.heap.size + 3, 2, none⟩ = some (dw (M * N) 2) := (HB.out.cell 2).trans rfl
      have e3 : W1.cell? ⟨w.heap.size + 3, 3, none⟩ = some (dw (M * N) 3) := (HB.out.cell 3).trans rfl
      have d0 : W1.cell? ⟨w.heap.size + 2, 0, none⟩ = some (.int .u64 0) := (kr.cell 0).trans rfl
      have d1 : W1.cell? ⟨w.heap.size + 2, 1, none⟩ = some (.int .u64 0) := (kr.cell 1).trans rfl
      have d2 : W1.cell? ⟨w.heap.size + 2, 2, none⟩ = some (.int .u64 0) := (kr.cell 2).trans rfl
      have d3 : W1.cell? ⟨w.heap.size + 2, 3, none⟩ = some (.int .u64 0) := (kr.cell 3).trans rfl
      have f0 := kr.frozen 0; have f1 := kr.frozen 1; have f2 := kr.frozen 2; have f3 := kr.frozen 3
      have hl2 := kr.lt
      obtain ⟨p, hp⟩ : ∃ p, p = M * N := ⟨_, rfl⟩
      rw [← hp] at e0 e1 e2 e3 ⊢
      have HPP := Lib.hid hp
      clear kr hp HB HT
      go_wp2
      exact bodyPost_ret (v := dn p) (by simp [results, Tryz.results56, go_sem, d0, d1, d2, d3]) rfl ⟨by rw [HPP.out], Only.ext (Only.ext HE.out HO.out (by omega)) (((((Only.refl _ _).set_ 0 _).set_ 1 _).set_ 2 _).set_ 3 _) (by omega)⟩
    · obtain ⟨m, hm⟩ : ∃ m, m = n := ⟨_, rfl⟩
      rw [← hm] at HB
      have hm4 : m < 4 := by omega
      have HMM := Lib.hid hm
      clear hm
      obtain ⟨T, hT⟩ : ∃ T, T = TT M N m := ⟨_, rfl⟩
      obtain ⟨a, ha⟩ : ∃ a, a = D M m % B64 := ⟨_, rfl⟩
      obtain ⟨T', hT'⟩ : ∃ T', T' = T + a * N * B64 ^ m := ⟨_, rfl⟩
      have HTN := Lib.hid (show TT M N (m + 1) = T' by rw [hT', hT, ha]; rfl)
      rw [← hT] at HB
      have HB0 := Lib.hid (show Blk W1 (w.heap.size + 3) 37 (mw T T' m) by rw [hT', mw_low]; exact HB.out)
      have HD0 := Lib.hid (show D T' m = D T m + a * D N 0 + 0 by rw [hT', D_add]; rfl)
      have HA := Lib.hid (show a < B64 by rw [ha]; exact Nat.mod_lt _ B64_pos)
      have HAA := Lib.hid ha
      clear hT ha hT' HB
      obtain ⟨i, hi⟩ : ∃ i : Int, i = (n : Int) := ⟨_, rfl⟩
      rw [← hi]
      have HI := Lib.hid hi
      rcases (by omega : i = 0 ∨ i = 1 ∨ i = 2 ∨ i = 3) with h | h | h | h
      all_goals (
      subst h; clear hi
      go_wp2_with (fail)
      go_loopw [7, 8] (fun c i wr => ∃ (k c0 : Nat), m + k ≤ 4 ∧ c0 < B64 ∧ D T' (m + k) = D T (m + k) + a * D N k + c0 ∧ i = .int .i64 k ∧ c = .int .u64 c0 ∧ Blk wr (w.heap.size + 3) 37 (mw T T' (m + k)) ∧ Only (w.heap.size + 3) W1 wr) (fun _ i _ => 4 - (intOf i).toNat)
      case atStart => exact ⟨0, 0, by omega, B64_pos, HD0.out, rfl, rfl, HB0.out, Only.refl _ _⟩
      case round =>
        obtain ⟨k, c0, hk, hc, hd, rfl, rfl, hb, ho⟩ := hrel
        have HO2 := Lib.hid ho; have HB2 := Lib.hid hb
        have HNK := Lib.hid hk
        rcases (by omega : m + k = 4 ∨ m + k < 4) with h4 | h4
        · have HB4 := Lib.hid (show Blk wr (w.heap.size + 3) 37 [dw (TT M N (m + 1)) 0, dw (TT M N (m + 1)) 1, dw (TT M N (m + 1)) 2, dw (TT M N (m + 1)) 3] by rw [HTN.out]; have h := hb; rw [h4] at h; exact h)
          have HO3 := Lib.hid (HO.out.trans' ho)
          clear ho hb hd
          have hm9 := HMM.out; have hi9 := HI.out
          rcases (by omega : k = 0 ∨ k = 1 ∨ k = 2 ∨ k = 3 ∨ k = 4) with rfl | rfl | rfl | rfl | rfl
          all_goals first | (exfalso; omega) | skip
          all_goals clear hm9 hi9
          go_wp2
          all_goals (exact ⟨⟨m + 1, by omega, by have := HI.out; have := HMM.out; congr 1; omega, HB4.out, HO3.out⟩, by simp [intOf]⟩)
        · obtain ⟨y, hy⟩ : ∃ y, y = D T (m + k) % B64 := ⟨_, rfl⟩
          obtain ⟨z, hz⟩ : ∃ z, z = D N k % B64 := ⟨_, rfl⟩
          have hyb : y < B64 := by rw [hy]; exact Nat.mod_lt _ B64_pos
          have hzb : z < B64 := by rw [hz]; exact Nat.mod_lt _ B64_pos
          obtain ⟨q, hq⟩ : ∃ q, q = a * z := ⟨_, rfl⟩
          have HM := Lib.hid (fun V => bitsMul64 a z HA.out hzb V)
          rw [← hq] at HM
          obtain ⟨hi, hhi⟩ : ∃ hi, hi = q / B64 := ⟨_, rfl⟩
          obtain ⟨lo, hlo⟩ : ∃ lo, lo = q % B64 := ⟨_, rfl⟩
          obtain ⟨l1, hl1⟩ : ∃ l1, l1 = (lo + y + 0) % B64 := ⟨_, rfl⟩
          obtain ⟨x1, hx1⟩ : ∃ x1, x1 = (lo + y + 0) / B64 := ⟨_, rfl⟩
          obtain ⟨l2, hl2⟩ : ∃ l2, l2 = (l1 + c0 + 0) % B64 := ⟨_, rfl⟩
          obtain ⟨y1, hy1⟩ : ∃ y1, y1 = (l1 + c0 + 0) / B64 := ⟨_, rfl⟩
          obtain ⟨c1, hc1⟩ : ∃ c1, c1 = hi + x1 + y1 := ⟨_, rfl⟩
          rw [← hhi, ← hlo] at HM
          have H1 : ∀ V, (callFunc 94 #[.int .u64 lo, .int .u64 y, .int .u64 0]).run Tryz.prog V = .ok (.value (.tuple #[.int .u64 (l1 : Int), .int .u64 (x1 : Int)])) V := fun V => by rw [hl1, hx1]; exact add64_run lo y 0 (by omega) V
          have H2 : ∀ V, (callFunc 94 #[.int .u64 l1, .int .u64 c0, .int .u64 0]).run Tryz.prog V = .ok (.value (.tuple #[.int .u64 (l2 : Int), .int .u64 (y1 : Int)])) V := fun V => by rw [hl2, hy1]; exact add64_run l1 c0 0 (by omega) V
          have F := mul_facts (D T (m + k)) (D N k) a c0 (D T' (m + k)) q hi lo l1 x1 l2 y1 c1 hd HA.out hc (by rw [hq, hz]) hhi hlo (by rw [hl1, hy]) (by rw [hx1, hy]) hl2 hy1 hc1
          have HC1 := Lib.hid F.2.2.1
          have w1 := F.2.2.2.1; have w2 := F.2.2.2.2
          have HMW := Lib.hid (show (mw T T' (m + k)).set (m + k) (.int .u64 (l2 : Int)) = mw T T' (m + (k + 1)) by rw [F.1]; exact mw_set T T' (m + k) h4)
          have HDN := Lib.hid (show D T' (m + (k + 1)) = D T (m + (k + 1)) + a * D N (k + 1) + c1 from F.2.1)
          clear F
          have ka : wr.cell? ⟨w.heap.size, m, none⟩ = some (.int .u64 (a : Int)) := by
            rw [((HO.out.trans' ho).block' K0.out (by omega)).cell m, HAA.out]
            rcases (by omega : m = 0 ∨ m = 1 ∨ m = 2 ∨ m = 3) with rfl | rfl | rfl | rfl <;> rfl
          have kb : wr.cell? ⟨w.heap.size + 1, k, none⟩ = some (.int .u64 (z : Int)) := by
            rw [((HO.out.trans' ho).block' K1.out (by omega)).cell k, hz]
            rcases (by omega : k = 0 ∨ k = 1 ∨ k = 2 ∨ k = 3) with rfl | rfl | rfl | rfl <;> rfl
          have kc : wr.cell? ⟨w.heap.size + 3, m + k, none⟩ = some (.int .u64 (y : Int)) := by
            rw [hb.cell (m + k), hy]
            generalize m + k = j at *
            rcases (by omega : j = 0 ∨ j = 1 ∨ j = 2 ∨ j = 3) with rfl | rfl | rfl | rfl <;> rfl
          have fo := hb.frozen (m + k)
          have la := ((HO.out.trans' ho).block' K0.out (by omega)).lt
          have lb := ((HO.out.trans' ho).block' K1.out (by omega)).lt
          have lc := hb.lt
          clear ho hb hd hy hz hq hhi hlo hl1 hx1 hl2 hy1 hyb hzb hc1
          rcases (by omega : (m = 0 ∧ k = 0) ∨ (m = 0 ∧ k = 1) ∨ (m = 0 ∧ k = 2) ∨ (m = 0 ∧ k = 3) ∨ (m = 1 ∧ k = 0) ∨ (m = 1 ∧ k = 1) ∨ (m = 1 ∧ k = 2) ∨ (m = 2 ∧ k = 0) ∨ (m = 2 ∧ k = 1) ∨ (m = 3 ∧ k = 0)) with h | h | h | h | h | h | h | h | h | h
          all_goals (
            obtain ⟨h1, h2⟩ := h
            have hm9 := HMM.out; have hi9 := HI.out
            first | (exfalso; omega) | skip
            all_goals (clear hm9 hi9; subst h1; subst h2)
            all_goals (
            go_wp2_with (fail)
            go_region_law (first | (go_simp; go_at_call 93; refine (HM.out _).mono ?_; rintro e w' ⟨rfl, hw⟩; rw [hw]))
            all_goals go_wp2
            all_goals go_roundw
            all_goals first
              | (refine ⟨1, c1, by omega, HC1.out, HDN.out, rfl, rfl, blk_mw HB2.out HMW.out, (HO2.out.set_ _ _).drewD⟩)
              | (refine ⟨2, c1, by omega, HC1.out, HDN.out, rfl, rfl, blk_mw HB2.out HMW.out, (HO2.out.set_ _ _).drewD⟩)
              | (refine ⟨3, c1, by omega, HC1.out, HDN.out, rfl, rfl, blk_mw HB2.out HMW.out, (HO2.out.set_ _ _).drewD⟩)
              | (refine ⟨4, c1, by omega, HC1.out, HDN.out, rfl, rfl, blk_mw HB2.out HMW.out, (HO2.out.set_ _ _).drewD⟩)
              | (show (_ : Nat) < _; simp [intOf]))))
end Go.Proofs.YtcoffndnfaemoaaGreatDoor
