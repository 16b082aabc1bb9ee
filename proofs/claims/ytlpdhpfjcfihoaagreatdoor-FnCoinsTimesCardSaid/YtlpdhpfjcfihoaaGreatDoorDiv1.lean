/-
  Contracts of bitsDiv64, bitsDiv (no high word), divWVW (one word), divW and div (one word over one word).
-/
import Derived.Test.YtlpdhpfjcfihoaaGreatDoorMul1
import Derived.Defers
import Derived.Deep.Cut
import Derived.BigQuiet
namespace Go.Proofs.YtlpdhpfjcfihoaaGreatDoor
open Go Go.RowKit

/-- A number made in no room of the caller's. -/
theorem RetN.nat {gz N : Nat} {w : World} {e : Ending} {w' : World} (h : RetN gz N w e w') (hg : w.heap.size ≤ gz) : RetNat N w e w' := by
  obtain ⟨A, c, g, ws, rfl, hv, hn, hN, ho, _⟩ := h
  exact ⟨A, c, ws, rfl, hv.le, hv.words, hn, hN, Only.ext (Ext.refl _) ho hg⟩
/-- A quotient and a word. -/
def RetQW (N r : Nat) (w : World) (e : Ending) (w' : World) : Prop :=
  ∃ A c ws, e = .returned (.tuple #[.slice A ws.length c, .int .u64 (r : Int)]) ∧ ws.length ≤ c ∧ Words w' A ws ∧ Norm ws ∧ natOf ws = N ∧ Ext w w'
/-- A quotient and a remainder. -/
def RetQR (N M : Nat) (w : World) (e : Ending) (w' : World) : Prop :=
  ∃ A c ws B d vs, e = .returned (.tuple #[.slice A ws.length c, .slice B vs.length d]) ∧ (ws.length ≤ c ∧ Words w' A ws ∧ Norm ws ∧ natOf ws = N) ∧ (vs.length ≤ d ∧ Words w' B vs ∧ Norm vs ∧ natOf vs = M) ∧ Ext w w'

set_option maxRecDepth 100000 in
theorem bDiv64Low (x y q r : Nat) (w : World) (hq : q = x / y) (hr : r = x % y) (hx : x < B64) (h0 : 0 < y) :
    Calls Tryz.prog 295 #[.int .u64 0, .int .u64 x, .int .u64 y] w (fun e w' => e = .returned (.tuple #[.int .u64 (q : Int), .int .u64 (r : Int)]) ∧ ∃ n, w' = w.drewN n) := by
  have e0 : ((y : Int) == 0) = false := by simp; omega
  have e1 : ¬ (y : Int) ≤ 0 := by omega
  have e2 : ¬ (y : Int) = 0 := by omega
  have HQ := Lib.hid hq; have HR := Lib.hid hr; have HB := Lib.hid hx; clear hq hr hx
  go_enter Tryz.func295, Tryz.ntmps295
  go_upto_region 6 with fail
  go_quiet (fail)
  go_wp2
  go_ret2
  have hlt : q < B64 := by rw [HQ.out]; exact Nat.lt_of_le_of_lt (Nat.div_le_self _ _) HB.out
  have hqw : IntKind.u64.wrap ((x : Int) / (y : Int)) = (q : Int) := by
    rw [show (x : Int) / (y : Int) = ((x / y : Nat) : Int) by rfl, ← HQ.out]
    have := hlt
    unfold B64 at this
    simp only [IntKind.wrap_u64]
    omega
  have hrw : (x : Int) % (y : Int) = (r : Int) := by rw [HR.out]; rfl
  refine ⟨?_, _, rfl⟩
  show Ending.returned (Value.tuple #[Value.int IntKind.u64 (IntKind.u64.wrap ((x : Int) / (y : Int))), Value.int IntKind.u64 ((x : Int) % (y : Int))]) = _
  rw [hqw, hrw]
set_option maxRecDepth 100000 in
theorem bDivLow (x y q r : Nat) (w : World) (hq : q = x / y) (hr : r = x % y) (hx : x < B64) (h0 : 0 < y) :
    Calls Tryz.prog 269 #[.int .u64 0, .int .u64 x, .int .u64 y] w (fun e w' => e = .returned (.tuple #[.int .u64 (q : Int), .int .u64 (r : Int)]) ∧ ∃ n, w' = w.drewN n) := by
  have H := Lib.hid (bDiv64Low x y q r w hq hr hx h0)
  clear hq hr hx h0
  go_enter Tryz.func269, Tryz.ntmps269
  go_wp2_with (go_at_call 295; refine H.out.mono ?_; rintro e w' ⟨rfl, n, rfl⟩)
  go_ret2
  exact ⟨rfl, n, rfl⟩

set_option maxRecDepth 100000 in
theorem vDivLow (g c bx ox cx : Nat) (x y q r : Nat) (ws : List Nat) (w : World) (hb : WB w g ws) (hl : 1 ≤ ws.length) (hx : w.cell? ⟨bx, ox, none⟩ = some (.int .u64 (x : Int))) (hq : q = x / y) (hr : r = x % y) (hxb : x < B64) (h0 : 0 < y) :
    Calls Tryz.prog 234 #[.slice (some ⟨g, 0, none⟩) 1 c, .int .u64 0, .slice (some ⟨bx, ox, none⟩) 1 cx, .int .u64 y] w (fun e w' => e = .returned (.int .u64 (r : Int)) ∧ ∃ n, w' = (w.drewN n).setCell ⟨g, 0, none⟩ (.int .u64 (q : Int))) := by
  have H := Lib.hid (bDivLow x y q r w hq hr hxb h0)
  obtain ⟨old, hold⟩ : ∃ old, ∀ n, (w.drewN n).cell? ⟨g, 0, none⟩ = some old := ⟨_, fun n => (hb.drewN n).cell 0 (ws[0]'(by omega)) (List.getElem?_eq_getElem (by omega))⟩
  have hfz : ∀ n, (w.drewN n).frozen? ⟨g, 0, none⟩ = false := fun n => (hb.drewN n).frozen 0
  clear hq hr hb hxb h0
  go_enter Tryz.func234, Tryz.ntmps234
  go_wp2_with (go_at_call 269; refine H.out.mono ?_; rintro e w' ⟨rfl, n, rfl⟩; have ho := hold n; have hz := hfz n)
  go_ret
  exact ⟨rfl, n, rfl⟩

set_option maxRecDepth 100000 in
/-- divW, the receiver nil, the numerator of one word at most. -/
theorem gDivW1 (B : Option Addr) (cb : Nat) (xs : List Nat) (m y : Nat) (w : World) (hx : Words w B xs) (hN : Norm xs) (hm : xs.length = m) (h1 : m ≤ 1) (hcb : m ≤ cb) (hy : y < B64) (h0 : 0 < y) :
    Calls Tryz.prog 197 #[.slice none 0 0, .slice B m cb, .int .u64 y] w (RetQW (natOf xs / y) (natOf xs % y) w) := by
  have e0 : ((y : Int) == 0) = false := by simp; omega
  by_cases hy1 : y = 1
  · subst hy1
    have HS := Lib.hid (natSet B cb xs w hx (by omega) hN)
    rw [hm] at HS
    rw [Nat.div_one, Nat.mod_one]
    clear hx hN hm h1 hcb hy h0 e0
    go_enter Tryz.func197, Tryz.ntmps197
    go_wp2_with (go_at_call 199; refine HS.out.mono ?_; rintro e w1 ⟨A1, c1, ws, rfl, hR⟩; have HR := Lib.hid hR; clear hR)
    go_ret2
    exact ⟨A1, c1, ws, rfl, HR.out⟩
  · have e1 : ((y : Int) == 1) = false := by simp; omega
    by_cases hm0 : m = 0
    · subst hm0
      have hxs : xs = [] := List.eq_nil_of_length_eq_zero hm
      have HV := Lib.hid (show RetQW (natOf xs / y) (natOf xs % y) w (.returned (.tuple #[.slice none 0 0, .int .u64 ((0 : Nat) : Int)])) w by
        rw [hxs]; exact ⟨none, 0, [], by simp [natOf], Nat.le_refl _, ⟨by simp, fun h => absurd rfl h⟩, norm_nil, by simp [natOf], Ext.refl _⟩)
      clear hx hN hm h1 hcb hy h0
      go_enter Tryz.func197, Tryz.ntmps197
      go_wp2
      go_ret2
      exact HV.out
    · obtain rfl : m = 1 := by omega
      obtain ⟨x, rfl⟩ := List.length_eq_one_iff.1 hm
      obtain ⟨bx, ox, rfl, ⟨cs, hbl⟩, hcell⟩ := hx.2 (by simp)
      have hxb := hx.1 x (by simp)
      have hcx : w.cell? ⟨bx, ox, none⟩ = some (.int .u64 (x : Int)) := hcell 0 (by simp)
      obtain ⟨q, hq⟩ : ∃ q, q = x / y := ⟨_, rfl⟩
      obtain ⟨r, hr⟩ : ∃ r, r = x % y := ⟨_, rfl⟩
      rw [natOf_one, ← hq, ← hr]
      have H := Lib.hid (gMake none 0 0 w.heap.size [] 1 w (NatV.nil _ _) (Nat.le_refl _) (by omega))
      have HP := Lib.hid (show q < B64 by rw [hq]; exact Nat.lt_of_le_of_lt (Nat.div_le_self _ _) hxb)
      have HK := Lib.hid (fun (g : Nat) (c : Nat) (ws : List Nat) (w1 : World) hb hl hc => vDivLow g c bx ox cb x y q r ws w1 hb hl hc hq hr hxb h0)
      clear hx hN hm h1 hcell hy h0 hq hr hxb
      have HCX := Lib.hid hcx; clear hcx
      go_enter Tryz.func197, Tryz.ntmps197
      go_wp2_with (fail)
      go_at_call 209
      refine H.out.mono ?_
      rintro e w1 ⟨g, c', full, rfl, hc, hb, hl, hmd⟩
      have hex : Ext w w1 := by
        rcases hmd with ⟨_, rfl⟩ | ⟨_, e⟩
        · exact Ext.refl _
        · exact e
      have hgn : w.heap.size ≤ g := by rcases hmd.where_ with h | h <;> omega
      have HC := Lib.hid (HK.out g c' full w1 hb (by omega) (hex.cell' HCX.out))
      have HB := Lib.hid hb; have HL := Lib.hid hl; have HM := Lib.hid hmd; have HG := Lib.hid hgn; have HE := Lib.hid hex
      clear hb hl hmd hgn hex
      go_wp2_with (fail)
      go_at_call 234
      refine HC.out.mono ?_
      rintro e w2 ⟨rfl, n, rfl⟩
      have hs := (HB.out.drewN n).set_ 0 q HP.out
      rw [show full.set 0 q = over full 0 [q] by have := over_snoc (ws := full) (o := 0) (ds := []) q (by simp; have := HL.out; omega); rwa [over_nil] at this] at hs
      have HW := Lib.hid hs; clear hs
      have HN := Lib.hid (natNorm g 0 c' [q] 1 ((w1.drewN n).setCell ⟨g, 0, none⟩ (.int .u64 (q : Int))) rfl (by omega) hc.1 (wb_cells HW.out (by simp; have := HL.out; omega)))
      go_wp2_with (fail)
      go_at_call 212
      refine HN.out.mono ?_
      rintro e w3 ⟨es, rfl, rfl, he, hN2, hve⟩
      have HEN := Lib.hid (norm_end (N := q) HM.out (((Only.refl g w1).drewN n).set_ 0 (.int .u64 (q : Int))) HW.out HL.out (by omega) (by simp; omega) he hN2 hve (natOf_one q))
      clear he hN2 hve
      go_wp2
      go_ret2
      obtain ⟨A2, c2, g2, ws2, he2, hv2, hn2, hN3, ho2, hg2⟩ := HEN.out
      injection he2 with he2; injection he2 with h1 h2 h3
      subst h1; subst h3
      exact ⟨some ⟨g, 0, none⟩, c', ws2, by rw [← h2]; rfl, hv2.le, hv2.words, hn2, hN3, Only.ext (Ext.refl _) ho2 (Nat.le_refl _)⟩

set_option maxRecDepth 100000 in
/-- div, receivers nil, one word over one word. -/
theorem gDiv1 (B D : Option Addr) (cb cd : Nat) (xs ys : List Nat) (m : Nat) (w : World) (hx : Words w B xs) (hN : Norm xs) (hm : xs.length = m) (h1 : m ≤ 1) (hcb : m ≤ cb) (hy : Words w D ys) (hNy : Norm ys) (hl : ys.length = 1) :
    Calls Tryz.prog 168 #[.slice none 0 0, .pointer none, .slice none 0 0, .slice B m cb, .slice D 1 cd] w (RetQR (natOf xs / natOf ys) (natOf xs % natOf ys) w) := by
  obtain ⟨y, rfl⟩ := List.length_eq_one_iff.1 hl
  obtain ⟨by0, oy, rfl, ⟨cs, hbl⟩, hcell⟩ := hy.2 (by simp)
  have hyb := hy.1 y (by simp)
  have hy0 : 0 < y := Nat.pos_of_ne_zero (hNy y (by simp))
  have hcy : w.cell? ⟨by0, oy, none⟩ = some (.int .u64 (y : Int)) := hcell 0 (by simp)
  rw [natOf_one]
  have H := Lib.hid (gDivW1 B cb xs m y w hx hN hm h1 hcb hyb hy0)
  obtain ⟨q, hq⟩ : ∃ q, q = natOf xs / y := ⟨_, rfl⟩
  obtain ⟨r, hr⟩ : ∃ r, r = natOf xs % y := ⟨_, rfl⟩
  have HRB := Lib.hid (show r < B64 by rw [hr]; exact Nat.lt_trans (Nat.mod_lt _ hy0) hyb)
  rw [← hq, ← hr] at H
  rw [← hq, ← hr]
  clear hx hN hm h1 hcb hy hNy hl hcell hyb hy0 hq hr
  go_enter Tryz.func168, Tryz.ntmps168
  go_wp2_with (fail)
  go_at_call 197
  refine H.out.mono ?_
  rintro e w1 ⟨A1, c1, ws, rfl, hR⟩
  have HR := Lib.hid hR; clear hR
  have HS := Lib.hid (gSetWord none 0 0 w1.heap.size [] r w1 (NatV.nil _ _) HRB.out)
  go_wp2_with (fail)
  go_at_call 198
  refine HS.out.mono ?_
  rintro e w2 hr2
  obtain ⟨A2, c2, vs, rfl, hR2⟩ := RetN.nat hr2 (Nat.le_refl _)
  have HR2 := Lib.hid hR2; clear hR2 hr2
  go_wp2
  go_ret2
  obtain ⟨h1, h2, h3, h4, h5⟩ := HR.out
  obtain ⟨k1, k2, k3, k4, k5⟩ := HR2.out
  exact ⟨A1, c1, ws, A2, c2, vs, rfl, ⟨h1, h2.ext k5, h3, h4⟩, ⟨k1, k2, k3, k4⟩, h5.trans' k5⟩
end Go.Proofs.YtlpdhpfjcfihoaaGreatDoor
