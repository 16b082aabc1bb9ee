/-
  Contract of big.Int's Mul at any receiver, in place or not.
-/
import Derived.Test.YtcoffndnfaemoaaGreatDoorGN
import Derived.Test.YtcoffndnfaemoaaGreatDoorGA
namespace Go.Proofs.YtcoffndnfaemoaaGreatDoor
open Go Go.RowKit

theorem sgnMul {s t : Bool} {xs ys ws : List Nat} (h : natOf ws = natOf xs * natOf ys) : bigVal s xs * bigVal t ys = bigVal (s != t) ws := by
  cases s <;> cases t <;> simp [bigVal, h, Int.neg_mul, Int.mul_neg]
set_option maxRecDepth 100000 in
set_option maxHeartbeats 1000000 in
theorem vMulIn (s t : Bool) {w : World} {b x x' gz cz n0 : Nat} {s0 : Bool} {A AX AY : Option Addr} {zs xs ys : List Nat} {cx cy : Nat} (H : In2 w b x x' gz cz n0 s0 A AX AY zs xs ys cx cy s t) (hq : ∀ W, Still w W → (binOp .eql 82 (.pointer (some ⟨x, 0, none⟩)) (.pointer (some ⟨x', 0, none⟩))).run Tryz.prog W = .ok (.bool false) W)
    (h1 : xs.length < 40) (h2 : ys.length < 40) (hcx : cx ≤ 1000000) (hcy : cy ≤ 1000000) (hT : Thr w) :
    Calls Tryz.prog 128 #[.pointer (some ⟨b, 0, none⟩), .pointer none, .pointer (some ⟨x, 0, none⟩), .pointer (some ⟨x', 0, none⟩)] w (fun e w' => e = .returned (.tuple #[]) ∧ ∃ g c, BigV w' b g c (bigVal s xs * bigVal t ys) ∧ (g = gz ∨ w.heap.size ≤ g) ∧ Only2 b gz w w') := by
  obtain ⟨hb, hz, hg, hx, hy, a0, a1, b0, b1, hxN, hyN, hxl, hyl, hxg, hyg⟩ := H
  have z0 : w.cell? ⟨b, 0, none⟩ = some (.bool s0) := (hb.cell 0).trans rfl
  have z1 : w.cell? ⟨b, 1, none⟩ = some (.slice A n0 cz) := (hb.cell 1).trans rfl
  have HX := Lib.hid hx; have HY := Lib.hid hy; have HB := Lib.hid hb; have HZ := Lib.hid hz; have HT := Lib.hid hT
  have hq0 := hq w ⟨0, rfl⟩
  clear hb hx hy hz hq hT
  cases s <;> cases t
  all_goals
    go_enter Tryz.func128, Tryz.ntmps128
    go_wp2
    go_region_law (first | (go_simp; go_at_call 167; refine (gMulAll none A n0 cz gz zs AX AY cx cy xs ys xs.length ys.length _ (by exact HZ.out) (by exact HX.out) (by exact HY.out) rfl rfl h1 h2 hcx hcy (by exact HT.out)).mono ?_; rintro e w1 ⟨A', c', g', ws', rfl, hn⟩; have hO : Only gz w w1 := ⟨hn.2.2.2.1.os, hn.2.2.2.1.tape, hn.2.2.2.1.output, hn.2.2.2.1.size, hn.2.2.2.1.block⟩; have z1' := hO.cell z1 (Ne.symm hg); have z0' := hO.cell z0 (Ne.symm hg); have a0' := hO.cell a0 hxg; have b0' := hO.cell b0 hyg; have fz1 := (hO.block' HB.out (Ne.symm hg)).frozen 1; have fz0 := (hO.block' HB.out (Ne.symm hg)).frozen 0; have HN := Lib.hid hn; clear hn; have HO := Lib.hid hO; clear hO))
    all_goals go_wp2
    all_goals (obtain ⟨k, hk⟩ : ∃ k, ws'.length = k := ⟨_, rfl⟩)
    all_goals (rw [hk])
    all_goals (have HK := Lib.hid hk; clear hk)
    all_goals (rcases Nat.eq_zero_or_pos k with h0 | h0)
    all_goals (first | subst h0 | (have hd : (0 : Int) < (k : Int) := by omega))
    all_goals go_region
    all_goals go_returns
    all_goals exact ⟨rfl, endV_drew (endV HB.out hg HO.out HN.out.1 HN.out.2.2.2.2 HN.out.2.1 HK.out (sgnMul HN.out.2.2.1) _ (by first | rfl | (rw [decide_eq_true h0]; rfl)))⟩
set_option maxRecDepth 100000 in
theorem vMul {s t : Bool} {w : World} {b x x' gz cz n0 : Nat} {s0 : Bool} {A AX AY : Option Addr} {zs xs ys : List Nat} {cx cy : Nat} (H : In2 w b x x' gz cz n0 s0 A AX AY zs xs ys cx cy s t) (hq : ∀ W, Still w W → (binOp .eql 82 (.pointer (some ⟨x, 0, none⟩)) (.pointer (some ⟨x', 0, none⟩))).run Tryz.prog W = .ok (.bool false) W)
    (h1 : xs.length < 40) (h2 : ys.length < 40) (hcx : cx ≤ 1000000) (hcy : cy ≤ 1000000) (hT : Thr w) :
    Calls Tryz.prog 85 #[.pointer (some ⟨b, 0, none⟩), .pointer (some ⟨x, 0, none⟩), .pointer (some ⟨x', 0, none⟩)] w (RetBV b gz (bigVal s xs * bigVal t ys) w) := by
  have H := Lib.hid (vMulIn s t H hq h1 h2 hcx hcy hT)
  clear hq h1 h2 hcx hcy hT
  go_enter Tryz.func85, Tryz.ntmps85
  go_wp2_with (go_at_call 128; refine H.out.mono ?_; rintro e w' ⟨rfl, hr⟩; have HR := Lib.hid hr; clear hr)
  go_ret
  exact ⟨rfl, HR.out⟩
end Go.Proofs.YtcoffndnfaemoaaGreatDoor
