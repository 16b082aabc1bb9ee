/-
  Contracts of big.Int's Mul (outer) and Quo on a fresh receiver, for numbers of at most one word.
-/
import Derived.Test.YtfafiahefjimdaaGreatDoorIntMul
namespace Go.Proofs.YtfafiahefjimdaaGreatDoor
open Go Go.RowKit

theorem signQuo {s t : Bool} {xs ys ws : List Nat} (h : natOf ws = natOf xs / natOf ys) : Int.tdiv (bigVal s xs) (bigVal t ys) = bigVal (s != t) ws := by
  have e : Int.tdiv (natOf xs : Int) (natOf ys : Int) = ((natOf ws : Nat) : Int) := by rw [h]; rfl
  cases s <;> cases t <;> simp [bigVal, Int.neg_tdiv, Int.tdiv_neg, e]

set_option maxRecDepth 100000 in
theorem intMul (b : Nat) (u v : Value) (y z : Int) (w : World) (hu : IsBig w u y) (hv : IsBig w v z) (hb : Blk w b 173 [.bool false, .slice none 0 0]) (hy : y.natAbs < B64) (hz : z.natAbs < B64)
    (hnu : u ≠ .pointer (some ⟨b, 0, none⟩)) (hnv : v ≠ .pointer (some ⟨b, 0, none⟩)) (huv : u ≠ v) :
    Calls Tryz.prog 118 #[.pointer (some ⟨b, 0, none⟩), u, v] w (RetInto b (y * z) w) := by
  obtain ⟨x, rfl, A, c, xs, nx, ha, hxw, hxl, hxN, hx0, rfl⟩ := hu
  obtain ⟨x', rfl, B, d, ys, ny, hb', hyw, hyl, hyN, hy0, rfl⟩ := hv
  rw [natAbs_bigVal] at hy hz
  have H := Lib.hid (intMulIn nx ny (w := w) (b := b) (x := x) (x' := x') (A := A) (B := B) (c := c) (d := d) (xs := xs) (ys := ys) ⟨(ha.cell 0).trans rfl, (ha.cell 1).trans rfl, (hb'.cell 0).trans rfl, (hb'.cell 1).trans rfl, hb, hxw, hyw, hxN, hyN, len_le_one hxN hy, len_le_one hyN hz, hxl, hyl, fun e => hnu (by rw [e]), fun e => hnv (by rw [e])⟩
    (fun W e => ptr_eq_other W (ha.ext e) (hb'.ext e) (fun e => huv (by rw [e]))))
  clear ha hxw hxl hxN hx0 hb' hyw hyl hyN hy0 hb hnu hnv huv hy hz
  go_enter Tryz.func118, Tryz.ntmps118
  go_wp2_with (go_at_call 173; refine H.out.mono ?_; rintro e w' ⟨rfl, hr⟩; have HR := Lib.hid hr; clear hr)
  go_ret
  exact ⟨rfl, HR.out⟩

set_option maxRecDepth 100000 in
set_option maxHeartbeats 1000000 in
theorem intQuoIn (s t : Bool) {w : World} {b x x' : Nat} {A B : Option Addr} {c d : Nat} {xs ys : List Nat} (H : TwoIn w b x x' A B c d xs ys s t) (hy0 : ys.length = 1) :
    Calls Tryz.prog 227 #[.pointer (some ⟨b, 0, none⟩), .pointer (some ⟨x, 0, none⟩), .pointer (some ⟨x', 0, none⟩)] w (RetInto b (Int.tdiv (bigVal s xs) (bigVal t ys)) w) := by
  obtain ⟨a0, a1, b0, b1, hb, hxw, hyw, hxN, hyN, hx1, hy1, hxl, hyl, hxb, hyb⟩ := H
  have z0 : w.cell? ⟨b, 0, none⟩ = some (.bool false) := (hb.cell 0).trans rfl
  have z1 : w.cell? ⟨b, 1, none⟩ = some (.slice none 0 0) := (hb.cell 1).trans rfl
  rw [hy0] at b1
  have HX := Lib.hid hxw; have HY := Lib.hid hyw; have HB := Lib.hid hb
  clear hb hxw hyw
  cases s <;> cases t
  all_goals
    go_enter Tryz.func227, Tryz.ntmps227
    go_wp2
    go_region_law (first | (go_simp; go_at_call 234; refine (gDiv1 A B c d xs ys xs.length _ (by exact HX.out) hxN rfl hx1 hxl (by exact HY.out) hyN hy0).mono ?_; rintro e w1 ⟨A', c', ws', B', d', vs', rfl, hn, hn2, hE0⟩; have hE : Ext w w1 := Ext.undrewN hE0; have z1' := hE.cell' z1; have z0' := hE.cell' z0; have a0' := hE.cell' a0; have b0' := hE.cell' b0; have fz1 := (HB.out.ext hE).frozen 1; have fz0 := (HB.out.ext hE).frozen 0; have HN := Lib.hid hn; clear hn hn2 hE0; have HE := Lib.hid hE; clear hE))
    all_goals go_wp2
    all_goals (obtain ⟨k, hk⟩ : ∃ k, ws'.length = k := ⟨_, rfl⟩)
    all_goals (rw [hk])
    all_goals (have HK := Lib.hid hk; clear hk)
    all_goals (rcases Nat.eq_zero_or_pos k with h0 | h0)
    all_goals (first | subst h0 | (have hd : (0 : Int) < (k : Int) := by omega))
    all_goals go_region
    all_goals go_wp2
    all_goals go_ret
    all_goals exact ⟨rfl, arithEndK HB.out HE.out HK.out HN.out.1 HN.out.2.1 HN.out.2.2.1 (signQuo HN.out.2.2.2) _ (by first | rfl | (rw [decide_eq_true h0]; rfl))⟩

theorem intQuo (b : Nat) (u v : Value) (y z : Int) (w : World) (hu : IsBig w u y) (hv : IsBig w v z) (hb : Blk w b 173 [.bool false, .slice none 0 0]) (hy : y.natAbs < B64) (hz : z.natAbs < B64) (h0 : z ≠ 0)
    (hnu : u ≠ .pointer (some ⟨b, 0, none⟩)) (hnv : v ≠ .pointer (some ⟨b, 0, none⟩)) :
    Calls Tryz.prog 227 #[.pointer (some ⟨b, 0, none⟩), u, v] w (RetInto b (Int.tdiv y z) w) := by
  obtain ⟨x, rfl, A, c, xs, nx, ha, hxw, hxl, hxN, hx0, rfl⟩ := hu
  obtain ⟨x', rfl, B, d, ys, ny, hb', hyw, hyl, hyN, hy0, rfl⟩ := hv
  rw [natAbs_bigVal] at hy hz
  have h1 := len_le_one hyN hz
  refine intQuoIn nx ny ⟨(ha.cell 0).trans rfl, (ha.cell 1).trans rfl, (hb'.cell 0).trans rfl, (hb'.cell 1).trans rfl, hb, hxw, hyw, hxN, hyN, len_le_one hxN hy, h1, hxl, hyl, fun e => hnu (by rw [e]), fun e => hnv (by rw [e])⟩ ?_
  rcases Nat.eq_zero_or_pos ys.length with e | e
  · exact absurd (by rw [List.eq_nil_of_length_eq_zero e]; cases ny <;> simp [bigVal, natOf]) h0
  · omega
end Go.Proofs.YtfafiahefjimdaaGreatDoor
