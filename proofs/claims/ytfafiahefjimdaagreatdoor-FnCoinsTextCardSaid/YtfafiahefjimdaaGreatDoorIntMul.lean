/-
  Contracts of big.Int's Mul and Quo on a fresh receiver, for numbers of at most one word.
-/
import Derived.Test.YtfafiahefjimdaaGreatDoorGL
import Derived.Test.YtfafiahefjimdaaGreatDoorGB
import Derived.BigRegion
import Derived.Handy
namespace Go.Proofs.YtfafiahefjimdaaGreatDoor
open Go Go.RowKit

theorem opd_fresh {w : World} {A : Option Addr} {c cz : Nat} {xs : List Nat} (h : Words w A xs) (hl : xs.length ≤ c) : Opd w w.heap.size cz A c xs :=
  ⟨h.1, hl, fun hn => by
    obtain ⟨g, o, hA, ⟨cs, hk⟩, hc⟩ := h.2 hn
    exact ⟨g, o, hA, ⟨cs, hk⟩, hc, Or.inl (by have := hk.lt; omega)⟩⟩
theorem natMul1 (A B : Option Addr) (ca cb : Nat) (xs ys : List Nat) (m n : Nat) (w : World) (hx : Words w A xs) (hy : Words w B ys) (hxl : xs.length = m) (hyl : ys.length = n) (hm : m ≤ 1) (hn : n ≤ 1) (hca : m ≤ ca) (hcb : n ≤ cb) :
    Calls Tryz.prog 216 #[.slice none 0 0, .pointer none, .slice A m ca, .slice B n cb] w (RetNat (natOf xs * natOf ys) w) :=
  (gMul1 none 0 0 w.heap.size [] A B ca cb xs ys m n w (NatV.nil _ _) (opd_fresh hx (by omega)) (opd_fresh hy (by omega)) hxl hyl (by omega) (by omega) (Or.inl hn)).mono (fun _ _ h => h.nat (Nat.le_refl _))
theorem signMul {s t : Bool} {xs ys ws : List Nat} (h : natOf ws = natOf xs * natOf ys) : bigVal s xs * bigVal t ys = bigVal (s != t) ws := by
  cases s <;> cases t <;> simp [bigVal, h, Int.neg_mul, Int.mul_neg]

theorem arithEndK {b k : Nat} {w w1 : World} {z : Int} {s : Bool} {A : Option Addr} {c : Nat} {ws : List Nat} (hb : Blk w b 173 [.bool false, .slice none 0 0])
    (hE : Ext w w1) (hk : ws.length = k) (hl : ws.length ≤ c) (hw : Words w1 A ws) (hN : Norm ws) (hz : z = bigVal s ws) (t : Bool) (ht : t = (decide (0 < k) && s)) :
    BigAt ((w1.setCell ⟨b, 1, none⟩ (.slice A k c)).setCell ⟨b, 0, none⟩ (.bool t)).drew b z ∧ Only b w ((w1.setCell ⟨b, 1, none⟩ (.slice A k c)).setCell ⟨b, 0, none⟩ (.bool t)).drew := by
  subst hk
  have h := arithEnd hb hE hl hw hN hz t ht
  exact ⟨h.1, ⟨h.2.os, h.2.tape, h.2.output, h.2.size, h.2.block⟩⟩

set_option maxRecDepth 100000 in
set_option maxHeartbeats 1000000 in
theorem intMulIn (s t : Bool) {w : World} {b x x' : Nat} {A B : Option Addr} {c d : Nat} {xs ys : List Nat} (H : TwoIn w b x x' A B c d xs ys s t) (hq : ∀ W, Ext w W → (binOp .eql 107 (.pointer (some ⟨x, 0, none⟩)) (.pointer (some ⟨x', 0, none⟩))).run Tryz.prog W = .ok (.bool false) W) :
    Calls Tryz.prog 173 #[.pointer (some ⟨b, 0, none⟩), .pointer none, .pointer (some ⟨x, 0, none⟩), .pointer (some ⟨x', 0, none⟩)] w (fun e w' => e = .returned (.tuple #[]) ∧ BigAt w' b (bigVal s xs * bigVal t ys) ∧ Only b w w') := by
  obtain ⟨a0, a1, b0, b1, hb, hxw, hyw, hxN, hyN, hx1, hy1, hxl, hyl, hxb, hyb⟩ := H
  have z0 : w.cell? ⟨b, 0, none⟩ = some (.bool false) := (hb.cell 0).trans rfl
  have z1 : w.cell? ⟨b, 1, none⟩ = some (.slice none 0 0) := (hb.cell 1).trans rfl
  have HX := Lib.hid hxw; have HY := Lib.hid hyw; have HB := Lib.hid hb
  have hq0 := hq w (Ext.refl _)
  clear hb hxw hyw hq
  cases s <;> cases t
  all_goals
    go_enter Tryz.func173, Tryz.ntmps173
    go_wp2
    go_region_law (first | (go_simp; go_at_call 216; refine (natMul1 A B c d xs ys xs.length ys.length _ (by exact HX.out) (by exact HY.out) rfl rfl hx1 hy1 hxl hyl).mono ?_; rintro e w1 ⟨A', c', ws', rfl, hn⟩; have hE : Ext w w1 := Ext.undrewN hn.2.2.2.2; have z1' := hE.cell' z1; have z0' := hE.cell' z0; have a0' := hE.cell' a0; have b0' := hE.cell' b0; have fz1 := (HB.out.ext hE).frozen 1; have fz0 := (HB.out.ext hE).frozen 0; have HN := Lib.hid hn; clear hn; have HE := Lib.hid hE; clear hE))
    all_goals go_wp2
    all_goals (obtain ⟨k, hk⟩ : ∃ k, ws'.length = k := ⟨_, rfl⟩)
    all_goals (rw [hk])
    all_goals (have HK := Lib.hid hk; clear hk)
    all_goals (rcases Nat.eq_zero_or_pos k with h0 | h0)
    all_goals (first | subst h0 | (have hd : (0 : Int) < (k : Int) := by omega))
    all_goals go_region
    all_goals go_returns
    all_goals exact ⟨rfl, arithEndK HB.out HE.out HK.out HN.out.1 HN.out.2.1 HN.out.2.2.1 (signMul HN.out.2.2.2.1) _ (by first | rfl | (rw [decide_eq_true h0]; rfl))⟩
end Go.Proofs.YtfafiahefjimdaaGreatDoor
