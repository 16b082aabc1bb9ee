/-
  The contracts of divWW: by a word whose top bit is set, and by 10^18.
  The contracts of bitsDiv64 and reciprocalWord at 10^18; divWVW, divW and div by 10^18 for numbers of any length.
-/
import Derived.Test.YtfafiahefjimdaaGreatDoorGL
import Derived.Laws.Bits64b
import Derived.Deep.Cut
namespace Go.Proofs.YtfafiahefjimdaaGreatDoor
open Go Go.RowKit

theorem ww_words {t X1 X0 q : Nat} (hq : q = (X1 * B64 + t + X0) / B64) (hqB : q < B64) : (t / B64 + X1 + (t % B64 + X0 + 0) / B64) % B64 = q := by
  unfold B64 at *; omega
theorem ww_rest {X1 X0 p r : Nat} (hp : p ≤ X1 * B64 + X0) (hr : r = X1 * B64 + X0 - p) (hr2 : r < B64 + B64) (h0 : X0 < B64) :
    (X0 + B64 - p % B64 - 0) % B64 = r % B64 ∧ (X1 + B64 - p / B64 - (if X0 < p % B64 + 0 then 1 else 0)) % B64 = r / B64 := by
  unfold B64 at *
  split <;> omega
/-- What divWW calculates, in plain numbers. -/
theorem ww_plain {d m X1 X0 : Nat} (hd0 : 0 < d) (hdB : d < B64) (hn : B64 ≤ 2 * d) (hm : m + B64 = (B64 * B64 - 1) / d) (h1 : X1 < d) (h0 : X0 < B64) :
    ∃ q r : Nat, (m * X1 / B64 + X1 + (m * X1 % B64 + X0 + 0) / B64) % B64 = q ∧ (X0 + B64 - d * q % B64 - 0) % B64 = r % B64 ∧ (X1 + B64 - d * q / B64 - (if X0 < d * q % B64 + 0 then 1 else 0)) % B64 = r / B64 ∧ q < B64 ∧ (X1 * B64 + X0) / d < B64 ∧
      ((r < d ∧ (X1 * B64 + X0) / d = q ∧ (X1 * B64 + X0) % d = r) ∨ (r < B64 ∧ d ≤ r ∧ (X1 * B64 + X0) / d = q + 1 ∧ (X1 * B64 + X0) % d = r - d) ∨
        (B64 ≤ r ∧ r < B64 + B64 ∧ r - d < d ∧ (X1 * B64 + X0) / d = q + 1 ∧ (X1 * B64 + X0) % d = r - d) ∨ (B64 ≤ r ∧ r < B64 + B64 ∧ d ≤ r - d ∧ r - d < B64 ∧ (X1 * B64 + X0) / d = q + 2 ∧ (X1 * B64 + X0) % d = r - 2 * d)) := by
  obtain ⟨K, hK⟩ : ∃ K, K = m + B64 := ⟨_, rfl⟩
  rw [← hK] at hm
  have hB := B64_pos
  have k1 : K * d < B64 * B64 := by
    have := Nat.div_mul_le_self (B64 * B64 - 1) d
    rw [← hm] at this
    have : 0 < B64 * B64 := Nat.mul_pos hB hB
    omega
  have k2 : B64 * B64 ≤ (K + 1) * d := by
    have := Nat.lt_mul_div_succ (B64 * B64 - 1) hd0
    rw [← hm, Nat.mul_comm d] at this
    omega
  obtain ⟨q, hq⟩ : ∃ q, q = (X1 * K + X0) / B64 := ⟨_, rfl⟩
  have e1 := recip_le (x1 := X1) (x0 := X0) hB (Nat.le_of_lt hdB) k1
  have e2 := recip_lt (x1 := X1) (x0 := X0) hd0 (Nat.le_of_lt hdB) k2 h1 h0
  rw [← hq] at e1 e2
  have e3 := recip_fix (Nat.le_of_lt hdB) hn e1 e2
  dsimp only at e3
  have hX : X1 * B64 + X0 < d * B64 := by
    have : (X1 + 1) * B64 ≤ d * B64 := Nat.mul_le_mul_right _ h1
    rw [Nat.add_mul, Nat.one_mul] at this
    omega
  have hQ : (X1 * B64 + X0) / d < B64 := (Nat.div_lt_iff_lt_mul hd0).2 (by rw [Nat.mul_comm B64]; exact hX)
  have hqB : q < B64 := by
    have : q * d < B64 * d := by rw [Nat.mul_comm B64]; omega
    exact Nat.lt_of_mul_lt_mul_right this
  have hX1K : X1 * K = X1 * B64 + m * X1 := by rw [hK, Nat.mul_add, Nat.mul_comm X1 m, Nat.add_comm]
  obtain ⟨X, hXX⟩ : ∃ X, X = X1 * B64 + X0 := ⟨_, rfl⟩
  obtain ⟨r, hr⟩ : ∃ r, r = X - q * d := ⟨_, rfl⟩
  have w1 := ww_words (t := m * X1) (X1 := X1) (X0 := X0) (by rw [← hX1K]; exact hq) hqB
  have w2 := ww_rest (X1 := X1) (X0 := X0) (p := d * q) (r := r) (by rw [Nat.mul_comm]; exact e1) (by rw [hr, hXX, Nat.mul_comm d]) (by rw [hr, hXX]; omega) h0
  rw [← hXX] at e1 e2 e3 hQ ⊢
  rw [← hr] at e3
  refine ⟨q, r, w1, w2.1, w2.2, hqB, hQ, ?_⟩
  have hr2 : r < B64 + d := by omega
  by_cases c1 : B64 ≤ r
  · rw [if_pos c1] at e3
    by_cases c2 : d ≤ r - d
    · rw [if_pos c2] at e3
      injection e3 with a b
      exact Or.inr (Or.inr (Or.inr ⟨c1, by omega, c2, by omega, a.symm, b.symm⟩))
    · rw [if_neg c2] at e3
      injection e3 with a b
      exact Or.inr (Or.inr (Or.inl ⟨c1, by omega, by omega, a.symm, b.symm⟩))
  · rw [if_neg c1] at e3
    by_cases c2 : d ≤ r
    · rw [if_pos c2] at e3
      injection e3 with a b
      exact Or.inr (Or.inl ⟨by omega, c2, a.symm, b.symm⟩)
    · rw [if_neg c2] at e3
      injection e3 with a b
      exact Or.inl ⟨by omega, a.symm, b.symm⟩
/-- The two corrections of the walk, as the machine makes them. -/
theorem ww_cases {d q r Q R : Nat} (hd0 : 0 < d) (hdB : d < B64) (hqB : q < B64) (hQ : Q < B64) (h : (r < d ∧ Q = q ∧ R = r) ∨ (r < B64 ∧ d ≤ r ∧ Q = q + 1 ∧ R = r - d) ∨ (B64 ≤ r ∧ r < B64 + B64 ∧ r - d < d ∧ Q = q + 1 ∧ R = r - d) ∨ (B64 ≤ r ∧ r < B64 + B64 ∧ d ≤ r - d ∧ r - d < B64 ∧ Q = q + 2 ∧ R = r - 2 * d)) :
    (r / B64 = 0 ∧ ¬ d ≤ r % B64 ∧ (Q : Int) = q ∧ (R : Int) = ((r % B64 : Nat) : Int)) ∨
    (r / B64 = 0 ∧ d ≤ r % B64 ∧ IntKind.u64.wrap ((q : Int) + 1) = (Q : Int) ∧ IntKind.u64.wrap (((r % B64 : Nat) : Int) - (d : Int)) = (R : Int)) ∨
    (r / B64 = 1 ∧ IntKind.u64.wrap (((r % B64 : Nat) : Int) - (d : Int)) = (R : Int) ∧ ¬ d ≤ R ∧ IntKind.u64.wrap ((q : Int) + 1) = (Q : Int)) ∨
    (r / B64 = 1 ∧ ∃ r' q' : Nat, IntKind.u64.wrap (((r % B64 : Nat) : Int) - (d : Int)) = (r' : Int) ∧ d ≤ r' ∧ IntKind.u64.wrap ((q : Int) + 1) = (q' : Int) ∧ IntKind.u64.wrap ((q' : Int) + 1) = (Q : Int) ∧ IntKind.u64.wrap ((r' : Int) - (d : Int)) = (R : Int)) := by
  simp only [IntKind.wrap_u64]
  unfold B64 at *
  rcases h with ⟨a, rfl, rfl⟩ | ⟨a, b, rfl, rfl⟩ | ⟨a, a2, b, rfl, rfl⟩ | ⟨a, a2, b, b2, rfl, rfl⟩
  · refine Or.inl ⟨?_, ?_, rfl, ?_⟩ <;> omega
  · refine Or.inr (Or.inl ⟨?_, ?_, ?_, ?_⟩) <;> omega
  · refine Or.inr (Or.inr (Or.inl ⟨?_, ?_, ?_, ?_⟩)) <;> omega
  · refine Or.inr (Or.inr (Or.inr ⟨?_, r - d, q + 1, ?_, ?_, ?_, ?_, ?_⟩)) <;> omega

set_option maxRecDepth 100000 in
set_option maxHeartbeats 2000000 in
theorem gDivWWn (X1 X0 d m : Nat) (w : World) (hd0 : 0 < d) (hdB : d < B64) (hn : B64 ≤ 2 * d) (hm : m + B64 = (B64 * B64 - 1) / d) (h1 : X1 < d) (h0 : X0 < B64) (hbl : Lib.bitLen d = 64) :
    Calls Tryz.prog 339 #[.int .u64 X1, .int .u64 X0, .int .u64 d, .int .u64 m] w (fun e w' => e = .returned (.tuple #[.int .u64 (((X1 * B64 + X0) / d : Nat) : Int), .int .u64 (((X1 * B64 + X0) % d : Nat) : Int)]) ∧ w' = w) := by
  have HZ := Lib.hid (fun W => gNlz d hdB W)
  rw [hbl, show ((64 - 64 : Nat) : Int) = 0 from rfl] at HZ
  clear hbl
  obtain ⟨q, r, w1, w2, w3, hqB, hQB, hc⟩ := ww_plain hd0 hdB hn hm h1 h0
  obtain ⟨Q, hQ⟩ : ∃ Q, Q = (X1 * B64 + X0) / d := ⟨_, rfl⟩
  obtain ⟨R, hR⟩ : ∃ R, R = (X1 * B64 + X0) % d := ⟨_, rfl⟩
  rw [← hQ, ← hR] at hc
  rw [← hQ] at hQB
  have hcs := ww_cases hd0 hdB hqB hQB hc
  have HG := Lib.hid (And.intro hQ hR)
  have HM1 := Lib.hid (fun W => bMul m X1 (show m < B64 by
    have : (B64 * B64 - 1) / d < 2 * B64 := (Nat.div_lt_iff_lt_mul hd0).2 (by have : B64 * B64 ≤ B64 * (2 * d) := Nat.mul_le_mul_left _ hn; rw [show 2 * B64 * d = B64 * (2 * d) by rw [Nat.mul_comm 2, Nat.mul_assoc]]; have := Nat.mul_pos B64_pos B64_pos; omega)
    omega) (Nat.lt_trans h1 hdB) W)
  obtain ⟨t1, ht1⟩ : ∃ t, t = m * X1 / B64 := ⟨_, rfl⟩
  obtain ⟨t0, ht0⟩ : ∃ t, t = m * X1 % B64 := ⟨_, rfl⟩
  rw [← ht1, ← ht0] at HM1 w1
  have hx1B : X1 < B64 := Nat.lt_trans h1 hdB
  have ht0B : t0 < B64 := by rw [ht0]; exact Nat.mod_lt _ B64_pos
  have HA1 := Lib.hid (fun W => bitsAdd t0 X0 0 (by omega) W)
  rw [show ((0 : Nat) : Int) = 0 from rfl] at HA1
  obtain ⟨a0, ha0⟩ : ∃ t, t = (t0 + X0 + 0) % B64 := ⟨_, rfl⟩
  obtain ⟨c, hcc⟩ : ∃ t, t = (t0 + X0 + 0) / B64 := ⟨_, rfl⟩
  rw [← ha0, ← hcc] at HA1
  rw [← hcc] at w1
  have hc1 : c ≤ 1 := by rw [hcc]; unfold B64 at *; omega
  have HA2 := Lib.hid (fun W => bitsAdd t1 X1 c hc1 W)
  obtain ⟨a1, ha1⟩ : ∃ t, t = (t1 + X1 + c) / B64 := ⟨_, rfl⟩
  rw [w1, ← ha1] at HA2
  have HM2 := Lib.hid (fun W => bMul d q hdB hqB W)
  obtain ⟨p1, hp1⟩ : ∃ t, t = d * q / B64 := ⟨_, rfl⟩
  obtain ⟨p0, hp0⟩ : ∃ t, t = d * q % B64 := ⟨_, rfl⟩
  rw [← hp1, ← hp0] at HM2
  rw [← hp0] at w2
  rw [← hp1, ← hp0] at w3
  have HS1 := Lib.hid (fun W => bitsSub X0 p0 0 (by omega) W)
  rw [show ((0 : Nat) : Int) = 0 from rfl] at HS1
  obtain ⟨b, hb⟩ : ∃ t : Nat, t = (if X0 < p0 + 0 then 1 else 0) := ⟨_, rfl⟩
  rw [w2, ← hb] at HS1
  rw [← hb] at w3
  have hb1 : b ≤ 1 := by rw [hb]; split <;> omega
  have HS2 := Lib.hid (fun W => bitsSub X1 p1 b hb1 W)
  obtain ⟨b2, hb2⟩ : ∃ t : Nat, t = (if X1 < p1 + b then 1 else 0) := ⟨_, rfl⟩
  rw [w3, ← hb2] at HS2
  obtain ⟨rl, hrl⟩ : ∃ t, t = r % B64 := ⟨_, rfl⟩
  rw [← hrl] at HS1 hcs
  obtain ⟨rh, hrh⟩ : ∃ t, t = r / B64 := ⟨_, rfl⟩
  rw [← hrh] at HS2 hcs
  rw [← hQ, ← hR]
  clear hd0 hdB hn hm h1 h0 w1 w2 w3 hqB hQB hc hQ hR ht1 ht0 hx1B ht0B ha0 hcc hc1 ha1 hp1 hp0 hb hb1 hb2 hrl hrh
  rcases hcs with ⟨g0, g1, g2, g3⟩ | ⟨g0, g1, g2, g3⟩ | ⟨g0, g1, g2, g3⟩ | ⟨g0, r', q', g1, g2, g3, g4, g5⟩
  all_goals (
    subst g0
    go_enter Tryz.func339, Tryz.ntmps339
    go_wp2_with (first | (go_at_call 312; (with_reducible refine (HZ.out _).mono ?_); rintro e w' ⟨rfl, rfl⟩) | (go_at_call 239; (with_reducible refine (HM1.out _).mono ?_); rintro e w' ⟨rfl, rfl⟩) | (go_at_call 239; (with_reducible refine (HM2.out _).mono ?_); rintro e w' ⟨rfl, rfl⟩) | (go_at_call 273; (with_reducible refine (HA1.out _).mono ?_); rintro e w' ⟨rfl, rfl⟩) | (go_at_call 273; (with_reducible refine (HA2.out _).mono ?_); rintro e w' ⟨rfl, rfl⟩) | (go_at_call 275; (with_reducible refine (HS1.out _).mono ?_); rintro e w' ⟨rfl, rfl⟩) | (go_at_call 275; (with_reducible refine (HS2.out _).mono ?_); rintro e w' ⟨rfl, rfl⟩)))
  all_goals go_ret2
  all_goals first | exact ⟨rfl, rfl⟩ | exact ⟨by rw [g2, g3]; rfl, rfl⟩ | exact ⟨by rw [g2, ← HS5.out g3]; rfl, rfl⟩

theorem ww_shift {x1 x0 : Nat} (h1 : x1 < 1000000000000000000) (h0 : x0 < B64) : bits .or .u64 ((x1 : Int) * 16) ((x0 : Int) / 1152921504606846976) = ((x1 * 16 + x0 / 1152921504606846976 : Nat) : Int) ∧ IntKind.u64.wrap ((x0 : Int) * 16) = ((x0 * 16 % B64 : Nat) : Int) ∧
    (x1 * 16 + x0 / 1152921504606846976) * B64 + x0 * 16 % B64 = (x1 * B64 + x0) * 16 ∧ x1 * 16 + x0 / 1152921504606846976 < 16000000000000000000 ∧ x0 * 16 % B64 < B64 := by
  unfold B64 at *
  refine ⟨?_, ?_, by omega, by omega, by omega⟩
  · have e : ((x1 : Int) * 16) = ((x1 * 16 : Nat) : Int) := by omega
    have e2 : ((x0 : Int) / 1152921504606846976) = ((x0 / 1152921504606846976 : Nat) : Int) := by omega
    rw [e, e2, bits_or_u64_nat _ _ (by omega) (by omega)]
    congr 1
    have := Nat.two_pow_add_eq_or_of_lt (i := 4) (b := x0 / 1152921504606846976) (by omega) x1
    rw [Nat.mul_comm x1 16]
    exact this.symm
  · rw [IntKind.wrap_u64]; omega

set_option maxRecDepth 100000 in
set_option maxHeartbeats 2000000 in
theorem gDivWW18 (x1 x0 m : Nat) (w : World) (hx1 : x1 < 1000000000000000000) (hx0 : x0 < B64) (hm : m + B64 = (B64 * B64 - 1) / 16000000000000000000) :
    Calls Tryz.prog 339 #[.int .u64 x1, .int .u64 x0, .int .u64 1000000000000000000, .int .u64 m] w (fun e w' => e = .returned (.tuple #[.int .u64 (((x1 * B64 + x0) / 1000000000000000000 : Nat) : Int), .int .u64 (((x1 * B64 + x0) % 1000000000000000000 : Nat) : Int)]) ∧ w' = w) := by
  have HZ := Lib.hid (fun W => gNlz 1000000000000000000 (show 1000000000000000000 < B64 by unfold B64; omega) W)
  rw [show ((64 - Lib.bitLen 1000000000000000000 : Nat) : Int) = 4 by decide +kernel, show ((1000000000000000000 : Nat) : Int) = 1000000000000000000 from rfl] at HZ
  obtain ⟨e1, e2, e3, h1, h0⟩ := ww_shift hx1 hx0
  obtain ⟨X1, hX1⟩ : ∃ X1, X1 = x1 * 16 + x0 / 1152921504606846976 := ⟨_, rfl⟩
  obtain ⟨X0, hX0⟩ : ∃ X0, X0 = x0 * 16 % B64 := ⟨_, rfl⟩
  rw [← hX1] at e1 e3 h1
  rw [← hX0] at e2 e3 h0
  obtain ⟨d, hd⟩ : ∃ d : Nat, d = 16000000000000000000 := ⟨_, rfl⟩
  rw [← hd] at hm h1
  have hd0 : 0 < d := by omega
  have hdB : d < B64 := by unfold B64; omega
  have hn : B64 ≤ 2 * d := by unfold B64; omega
  obtain ⟨q, r, w1, w2, w3, hqB, hQB, hc⟩ := ww_plain hd0 hdB hn hm h1 h0
  obtain ⟨Q, hQ⟩ : ∃ Q, Q = (X1 * B64 + X0) / d := ⟨_, rfl⟩
  obtain ⟨R, hR⟩ : ∃ R, R = (X1 * B64 + X0) % d := ⟨_, rfl⟩
  rw [← hQ, ← hR] at hc
  rw [← hQ] at hQB
  have hcs := ww_cases hd0 hdB hqB hQB hc
  have HG := Lib.hid (And.intro hQ hR)
  have HM1 := Lib.hid (fun W => bMul m X1 (show m < B64 by
    have : (B64 * B64 - 1) / d < 2 * B64 := (Nat.div_lt_iff_lt_mul hd0).2 (by have : B64 * B64 ≤ B64 * (2 * d) := Nat.mul_le_mul_left _ hn; rw [show 2 * B64 * d = B64 * (2 * d) by rw [Nat.mul_comm 2, Nat.mul_assoc]]; have := Nat.mul_pos B64_pos B64_pos; omega)
    omega) (Nat.lt_trans h1 hdB) W)
  obtain ⟨t1, ht1⟩ : ∃ t, t = m * X1 / B64 := ⟨_, rfl⟩
  obtain ⟨t0, ht0⟩ : ∃ t, t = m * X1 % B64 := ⟨_, rfl⟩
  rw [← ht1, ← ht0] at HM1 w1
  have hx1B : X1 < B64 := Nat.lt_trans h1 hdB
  have ht0B : t0 < B64 := by rw [ht0]; exact Nat.mod_lt _ B64_pos
  have HA1 := Lib.hid (fun W => bitsAdd t0 X0 0 (by omega) W)
  rw [show ((0 : Nat) : Int) = 0 from rfl] at HA1
  obtain ⟨a0, ha0⟩ : ∃ t, t = (t0 + X0 + 0) % B64 := ⟨_, rfl⟩
  obtain ⟨c, hcc⟩ : ∃ t, t = (t0 + X0 + 0) / B64 := ⟨_, rfl⟩
  rw [← ha0, ← hcc] at HA1
  rw [← hcc] at w1
  have hc1 : c ≤ 1 := by rw [hcc]; unfold B64 at *; omega
  have HA2 := Lib.hid (fun W => bitsAdd t1 X1 c hc1 W)
  obtain ⟨a1, ha1⟩ : ∃ t, t = (t1 + X1 + c) / B64 := ⟨_, rfl⟩
  rw [w1, ← ha1] at HA2
  have HM2 := Lib.hid (fun W => bMul d q hdB hqB W)
  obtain ⟨p1, hp1⟩ : ∃ t, t = d * q / B64 := ⟨_, rfl⟩
  obtain ⟨p0, hp0⟩ : ∃ t, t = d * q % B64 := ⟨_, rfl⟩
  rw [← hp1, ← hp0] at HM2
  rw [← hp0] at w2
  rw [← hp1, ← hp0] at w3
  have HS1 := Lib.hid (fun W => bitsSub X0 p0 0 (by omega) W)
  rw [show ((0 : Nat) : Int) = 0 from rfl] at HS1
  obtain ⟨b, hb⟩ : ∃ t : Nat, t = (if X0 < p0 + 0 then 1 else 0) := ⟨_, rfl⟩
  rw [w2, ← hb] at HS1
  rw [← hb] at w3
  have hb1 : b ≤ 1 := by rw [hb]; split <;> omega
  have HS2 := Lib.hid (fun W => bitsSub X1 p1 b hb1 W)
  obtain ⟨b2, hb2⟩ : ∃ t : Nat, t = (if X1 < p1 + b then 1 else 0) := ⟨_, rfl⟩
  rw [w3, ← hb2] at HS2
  obtain ⟨rl, hrl⟩ : ∃ t, t = r % B64 := ⟨_, rfl⟩
  rw [← hrl] at HS1 hcs
  obtain ⟨rh, hrh⟩ : ∃ t, t = r / B64 := ⟨_, rfl⟩
  rw [← hrh] at HS2 hcs
  have hQ2 : Q = (x1 * B64 + x0) / 1000000000000000000 := by
    have := (scaled (x := x1 * B64 + x0) (y := 1000000000000000000) (k := 16) (by omega)).1
    rw [← this, hQ, e3, hd]
  have hR2 : R / 16 = (x1 * B64 + x0) % 1000000000000000000 := by
    have := (scaled (x := x1 * B64 + x0) (y := 1000000000000000000) (k := 16) (by omega)).2
    rw [← this, hR, e3, hd]
  obtain ⟨R', hR'⟩ : ∃ R', R' = R / 16 := ⟨_, rfl⟩
  rw [← hR'] at hR2
  rw [← hQ2, ← hR2]
  have hs4 : (R : Int) / 16 = (R' : Int) := by omega
  have HS5 := Lib.hid (show (R : Int) = (rl : Int) → (rl : Int) / 16 = (R' : Int) from fun e => by rw [← e]; exact hs4)
  have HDI := Lib.hid (show (16000000000000000000 : Int) = (d : Int) by omega)
  clear hQ2 hR2 hR' e3 hX1 hX0 hx0
  clear hd0 hdB hn hm h1 h0 w1 w2 w3 hqB hQB hc hQ hR ht1 ht0 hx1B ht0B ha0 hcc hc1 ha1 hp1 hp0 hb hb1 hb2 hrl hrh
  clear hd HG
  rcases hcs with ⟨g0, g1, g2, g3⟩ | ⟨g0, g1, g2, g3⟩ | ⟨g0, g1, g2, g3⟩ | ⟨g0, r', q', g1, g2, g3, g4, g5⟩
  all_goals (
    subst g0
    go_enter Tryz.func339, Tryz.ntmps339
    go_upto_region 7 with (go_at_call 312; (with_reducible refine (HZ.out _).mono ?_); rintro e w' ⟨rfl, rfl⟩)
    rw [HDI.out]
    go_wp2_with (first | (go_at_call 312; (with_reducible refine (HZ.out _).mono ?_); rintro e w' ⟨rfl, rfl⟩) | (go_at_call 239; (with_reducible refine (HM1.out _).mono ?_); rintro e w' ⟨rfl, rfl⟩) | (go_at_call 239; (with_reducible refine (HM2.out _).mono ?_); rintro e w' ⟨rfl, rfl⟩) | (go_at_call 273; (with_reducible refine (HA1.out _).mono ?_); rintro e w' ⟨rfl, rfl⟩) | (go_at_call 273; (with_reducible refine (HA2.out _).mono ?_); rintro e w' ⟨rfl, rfl⟩) | (go_at_call 275; (with_reducible refine (HS1.out _).mono ?_); rintro e w' ⟨rfl, rfl⟩) | (go_at_call 275; (with_reducible refine (HS2.out _).mono ?_); rintro e w' ⟨rfl, rfl⟩)))
  all_goals go_ret2
  all_goals first | exact ⟨rfl, rfl⟩ | exact ⟨by rw [g2, g3]; rfl, rfl⟩ | exact ⟨by rw [g2, ← HS5.out g3]; rfl, rfl⟩
end Go.Proofs.YtfafiahefjimdaaGreatDoor

namespace Go.Proofs.YtfafiahefjimdaaGreatDoor
open Go Go.RowKit

set_option maxRecDepth 100000 in
set_option maxHeartbeats 1000000 in
theorem bDivU18 (w : World) : Calls Tryz.prog 373 #[.int .u64 2446744073709551615, .int .u64 18446744073709551615, .int .u64 16000000000000000000] w (fun e w' => e = .returned (.tuple #[.int .u64 2820903858849102350, .int .u64 7374607431768211455]) ∧ w' = w) := by
  have HZ := Lib.hid (fun W => bLeadZ64 16000000000000000000 W (by unfold B64; omega))
  rw [show (64 - (Lib.bitLen 16000000000000000000 : Int)) = 0 by decide +kernel, show ((16000000000000000000 : Nat) : Int) = 16000000000000000000 from rfl] at HZ
  have f1 : bits .and .u64 16000000000000000000 4294967295 = 1983905792 := by decide +kernel
  have f2 : bits .and .u64 18446744073709551615 4294967295 = 4294967295 := by decide +kernel
  have hwrap := fun z : Int => (IntKind.wrap_u64 (n := z))
  have f3 : bits .or .u64 2446744073709551615 0 = 2446744073709551615 := by decide +kernel
  go_enter Tryz.func373, Tryz.ntmps373
  go_wp2_with (go_at_call 390; (with_reducible refine (HZ.out _).mono ?_); rintro e w' ⟨rfl, hw⟩; subst hw)
  obtain ⟨W, hW⟩ : ∃ W, W = w' := ⟨_, rfl⟩
  rw [← hW]
  have HW := Lib.hid hW; clear hW
  go_loopw [15, 16] (fun a b wr => a = .int .u64 656792861 ∧ b = .int .u64 830589037 ∧ wr = W) (fun _ _ _ => 0)
  case atStart => exact ⟨by rfl, by rfl, rfl⟩
  case round =>
    obtain ⟨rfl, rfl, hwr⟩ := hrel
    have HWR := Lib.hid hwr; clear hwr
    go_wp2
    obtain ⟨W2, hW2⟩ : ∃ W2, W2 = wr := ⟨_, rfl⟩
    rw [← hW2]
    have HW2 := Lib.hid hW2; clear hW2
    go_loopw [16, 18] (fun a b wz => a = .int .u64 1997799123 ∧ b = .int .u64 607828494 ∧ wz = W2) (fun _ _ _ => 0)
    case atStart => exact ⟨by rfl, by rfl, rfl⟩
    case round =>
      obtain ⟨rfl, rfl, hwz⟩ := hrel
      have HWZ := Lib.hid hwz; clear hwz
      go_wp2
      go_ret2
      exact ⟨rfl, by rw [HWZ.out, HW2.out, HWR.out, HW.out]⟩
set_option maxRecDepth 100000 in
theorem bDivU18' (w : World) : Calls Tryz.prog 337 #[.int .u64 2446744073709551615, .int .u64 18446744073709551615, .int .u64 16000000000000000000] w (fun e w' => e = .returned (.tuple #[.int .u64 2820903858849102350, .int .u64 7374607431768211455]) ∧ w' = w) := by
  have H := Lib.hid (bDivU18 w)
  go_enter Tryz.func337, Tryz.ntmps337
  go_wp2_with (go_at_call 373; (with_reducible refine H.out.mono ?_); rintro e w' ⟨rfl, hw⟩; subst hw)
  go_ret2
  exact ⟨rfl, rfl⟩
set_option maxRecDepth 100000 in
theorem gRecip18 (w : World) : Calls Tryz.prog 338 #[.int .u64 1000000000000000000] w (fun e w' => e = .returned (.int .u64 2820903858849102350) ∧ w' = w) := by
  have H := Lib.hid (fun W => bDivU18' W)
  have HZ := Lib.hid (fun W => gNlz 1000000000000000000 (show 1000000000000000000 < B64 by unfold B64; omega) W)
  rw [show ((64 - Lib.bitLen 1000000000000000000 : Nat) : Int) = 4 by decide +kernel, show ((1000000000000000000 : Nat) : Int) = 1000000000000000000 from rfl] at HZ
  go_enter Tryz.func338, Tryz.ntmps338
  go_wp2_with (first | (go_at_call 312; (with_reducible refine (HZ.out _).mono ?_); rintro e w' ⟨rfl, hw⟩; subst hw) | (go_at_call 337; (refine (H.out _).mono ?_); rintro e w' ⟨rfl, hw⟩; subst hw))
  go_ret
  exact ⟨rfl, rfl⟩

/-- The words of the quotient by d, from the top. -/
theorem div_step {N d x : Nat} (hd : 0 < d) : (x + B64 * N) / d = (N % d * B64 + x) / d + B64 * (N / d) ∧ (x + B64 * N) % d = (N % d * B64 + x) % d := by
  have e : x + B64 * N = (N % d * B64 + x) + d * (B64 * (N / d)) := by
    have h := Nat.div_add_mod N d
    have : B64 * N = B64 * (d * (N / d)) + B64 * (N % d) := by rw [← Nat.mul_add, h]
    rw [this, Nat.mul_comm (N % d), Nat.mul_left_comm d B64]
    omega
  rw [e, Nat.add_mul_div_left _ _ hd, Nat.add_mul_mod_self_left]
  exact ⟨rfl, rfl⟩
theorem Src.readUp {w wr : World} {g k bx ox : Nat} {xs ws ds : List Nat} (h : Src w g 0 bx ox xs) (hb : WB w g ws) (e : Only g w wr) (kk : WB wr g (over ws k ds)) (ho : k + ds.length ≤ ws.length) (j : Nat) (hj : j < k) (hx : j < xs.length) :
    wr.cell? ⟨bx, ox + j, none⟩ = some (.int .u64 (xs[j] : Int)) := by
  have hc := h.2.1 j hx
  rcases h.2.2 with hne | ⟨rfl, rfl⟩
  · exact e.cell hc hne
  · rw [kk.1.cell, List.getElem?_map, over_get ho, if_pos (by omega), ← List.getElem?_map, ← hb.1.cell]
    exact hc
theorem natOf_drop {xs : List Nat} {i : Nat} (h : i < xs.length) : natOf (xs.drop i) = xs[i] + B64 * natOf (xs.drop (i + 1)) := by
  rw [List.drop_eq_getElem_cons h]; rfl

set_option maxRecDepth 100000 in
set_option maxHeartbeats 2000000 in
/-- divWVW by 10^18, of two words or more, into another block or in place. -/
theorem vDivT (g c bx ox cx n : Nat) (ws xs : List Nat) (w : World) (hb : WB w g ws) (hl : n ≤ ws.length) (hxl : xs.length = n) (hn2 : 2 ≤ n) (hn : n ≤ 100000) (_hc : n ≤ c) (_hcx : n ≤ cx) (hsx : Src w g 0 bx ox xs) :
    Calls Tryz.prog 311 #[.slice (some ⟨g, 0, none⟩) n c, .int .u64 0, .slice (some ⟨bx, ox, none⟩) n cx, .int .u64 1000000000000000000] w
      (fun e w' => ∃ ds : List Nat, e = .returned (.int .u64 ((natOf xs % 1000000000000000000 : Nat) : Int)) ∧ ds.length = n ∧ (∀ d ∈ ds, d < B64) ∧ natOf ds = natOf xs / 1000000000000000000 ∧ WB w' g (over ws 0 ds) ∧ Only g w w') := by
  have HX := Lib.hid hsx; have HXB := Lib.hid hsx.1; have HB0 := Lib.hid hb; have HXL := Lib.hid hxl
  have e1 : ((n : Int) == 1) = false := by simp; omega
  clear hsx hb
  go_enter Tryz.func311, Tryz.ntmps311
  go_wp2_with (go_at_call 338; (with_reducible refine (gRecip18 _).mono ?_); rintro e w' ⟨rfl, hw⟩; subst hw)
  have HRW := Lib.hid (fun (x1 x0 : Nat) (h1 : x1 < 1000000000000000000) (h0 : x0 < B64) (W : World) => gDivWW18 x1 x0 2820903858849102350 W h1 h0 (by unfold B64; decide +kernel))
  rw [show ((2820903858849102350 : Nat) : Int) = 2820903858849102350 from rfl] at HRW
  obtain ⟨W, hW⟩ : ∃ W, W = w' := ⟨_, rfl⟩
  go_loopw [8, 12] (fun v i wr => ∃ (k r : Nat) (ds : List Nat), k ≤ n ∧ ((∃ m, k = m + 1 ∧ i = .int .i64 (m : Int)) ∨ (k = 0 ∧ i = .int .i64 (-1))) ∧ v = .int .u64 (r : Int) ∧ r = natOf (xs.drop k) % 1000000000000000000 ∧ ds.length + k = n ∧ natOf ds = natOf (xs.drop k) / 1000000000000000000 ∧ (∀ d ∈ ds, d < B64) ∧ WB wr g (over ws k ds) ∧ Only g w' wr) (fun _ i _ => match i with | .int _ z => (z + 1).toNat | _ => 0)
  case atStart =>
    refine ⟨n, 0, [], Nat.le_refl _, Or.inl ⟨n - 1, by omega, by congr 1; omega⟩, rfl, ?_, by simp, ?_, (fun d hd => by cases hd), by rw [over_nil]; exact HB0.out, Only.refl _ _⟩
    · rw [List.drop_of_length_le (by rw [HXL.out]; exact Nat.le_refl _)]; rfl
    · rw [List.drop_of_length_le (by rw [HXL.out]; exact Nat.le_refl _)]; rfl
  case round =>
    obtain ⟨k, r, ds, hk, hi, rfl, hr, hdl, hdv, hdb, hwb, ho⟩ := hrel
    have HR := Lib.hid hr; have HDL := Lib.hid hdl; have HDV := Lib.hid hdv; have HDB := Lib.hid hdb; have HWB := Lib.hid hwb; have HO := Lib.hid ho
    clear hr hdl hdv hdb hwb ho
    rcases hi with ⟨m, hkm, rfl⟩ | ⟨hk0, rfl⟩
    · have HKM := Lib.hid hkm
      have hml : m < xs.length := by rw [HXL.out]; omega
      obtain ⟨x, hxm⟩ : ∃ x, x = xs[m] := ⟨_, rfl⟩
      have cx : wr.cell? ⟨bx, ox + m, none⟩ = some (.int .u64 (x : Int)) := by rw [hxm]; exact HX.out.readUp HB0.out HO.out HWB.out (by have := HDL.out; omega) m (by omega) hml
      have hxB : x < B64 := by rw [hxm]; exact HXB.out _ (List.getElem_mem hml)
      have HND := Lib.hid (show natOf (xs.drop m) = x + B64 * natOf (xs.drop k) by rw [natOf_drop hml, hxm, hkm])
      have hrB : r < 1000000000000000000 := by rw [HR.out]; exact Nat.mod_lt _ (by omega)
      have HD := Lib.hid (fun W => HRW.out r x hrB hxB W)
      have hds := div_step (N := natOf (xs.drop k)) (d := 1000000000000000000) (x := x) (by omega)
      rw [← HR.out, ← HND.out, ← HDV.out] at hds
      obtain ⟨q, hq⟩ : ∃ q, q = (r * B64 + x) / 1000000000000000000 := ⟨_, rfl⟩
      obtain ⟨r2, hr2⟩ : ∃ r2, r2 = (r * B64 + x) % 1000000000000000000 := ⟨_, rfl⟩
      have hqB : q < B64 := by rw [hq]; unfold B64 at *; omega
      rw [← hq, ← hr2] at HD hds
      have HQB := Lib.hid hqB; have HDS := Lib.hid hds
      have lx := cell_lt cx
      obtain ⟨old, hold⟩ : ∃ old, wr.cell? ⟨g, m, none⟩ = some old := ⟨_, HWB.out.cell m _ (List.getElem?_eq_getElem (by rw [over_length (by have := HDL.out; omega)]; omega))⟩
      have hfz := HWB.out.frozen m
      have lg := HWB.out.lt
      have b1 : (m : Int) < (n : Int) := by omega
      have b0 : (0 : Int) ≤ (m : Int) := by omega
      clear hxm hxB hrB hq hr2 hqB hds hkm hW
      go_wp2_with (go_at_call 339; (with_reducible refine (HD.out _).mono ?_); rintro e w2 ⟨rfl, hw⟩; subst hw)
      go_roundw
      case rel =>
        have hkm := HKM.out
        refine ⟨m, r2, q :: ds, by omega, ?_, rfl, HDS.out.2.symm, by have := HDL.out; simp; omega, ?_, ?_, ?_, HO.out.set_ _ _⟩
        · rcases Nat.eq_zero_or_pos m with h0 | h0
          · exact Or.inr ⟨h0, by subst h0; rfl⟩
          · exact Or.inl ⟨m - 1, by omega, by congr 1; omega⟩
        · show q + B64 * natOf ds = _
          rw [HDS.out.1]
        · intro d hd
          rcases List.mem_cons.1 hd with rfl | hd
          · exact HQB.out
          · exact HDB.out d hd
        · have h3 := HWB.out.set_ m q HQB.out
          rwa [hkm, over_cons q (by have := HDL.out; omega)] at h3
      case measure => first | (simp; done) | (simp; omega)
    · subst hk0
      go_wp2
      go_ret
      exact ⟨ds, by rw [HR.out]; rfl, by have := HDL.out; omega, HDB.out, HDV.out, HWB.out, HO.out⟩

set_option maxRecDepth 100000 in
set_option maxHeartbeats 1000000 in
/-- divW by 10^18, the receiver nil. -/
theorem gDivWT (B : Option Addr) (cb : Nat) (xs : List Nat) (m : Nat) (w : World) (hx : Words w B xs) (hN : Norm xs) (hm : xs.length = m) (hmx : m ≤ 100000) (hcb : m ≤ cb) :
    Calls Tryz.prog 281 #[.slice none 0 0, .slice B m cb, .int .u64 1000000000000000000] w (RetQW (natOf xs / 1000000000000000000) (natOf xs % 1000000000000000000) w) := by
  rcases (by omega : m ≤ 1 ∨ 2 ≤ m) with h1 | h1
  · exact gDivW1 B cb xs m 1000000000000000000 w hx hN hm h1 hcb (by unfold B64; omega) (by omega)
  · have hne : xs ≠ [] := by intro e; subst e; simp at hm; omega
    obtain ⟨bx, ox, rfl, ⟨cs, hbl⟩, hcell⟩ := hx.2 hne
    have hxb := hx.1
    have H := Lib.hid (gMake none 0 0 w.heap.size [] m w (NatV.nil _ _) (by omega) (by omega))
    have HBL := Lib.hid hbl.lt
    have HXC := Lib.hid hcell; have HXB := Lib.hid hxb; have HL0 := Lib.hid hm
    have e0 : ((m : Int) == 0) = false := by simp; omega
    clear hx hN hcell hxb hbl hm
    obtain ⟨q, hq⟩ : ∃ q, q = natOf xs / 1000000000000000000 := ⟨_, rfl⟩
    obtain ⟨r, hr⟩ : ∃ r, r = natOf xs % 1000000000000000000 := ⟨_, rfl⟩
    rw [← hq, ← hr]
    have HQ := Lib.hid hq; have HR := Lib.hid hr
    clear hq hr
    go_enter Tryz.func281, Tryz.ntmps281
    go_wp2_with (fail)
    go_at_call 218
    refine H.out.mono ?_
    rintro e w1 ⟨g, c', full, rfl, hc, hb, hl, hmd⟩
    have hex : Ext w w1 := by
      rcases hmd with ⟨_, rfl⟩ | ⟨_, e⟩
      · exact Ext.refl _
      · exact e
    have hgn : w.heap.size ≤ g := by rcases hmd.where_ with h | h <;> omega
    have HC := Lib.hid (vDivT g c' bx ox cb m full xs w1 hb (by omega) HL0.out h1 hmx hc.1 hcb ⟨HXB.out, fun j hj => hex.cell' (HXC.out j hj), Or.inl (by have := HBL.out; omega)⟩)
    rw [← HR.out, ← HQ.out] at HC
    have HL := Lib.hid hl; have HM := Lib.hid hmd; have HG := Lib.hid hgn; have HE := Lib.hid hex; have HCC := Lib.hid hc
    clear hb hl hmd hgn hex hc
    go_wp2_with (fail)
    go_at_call 311
    refine HC.out.mono ?_
    rintro e w2 ⟨ds, rfl, hdl, hdb, hdv, hwb, ho⟩
    have HW := Lib.hid hwb; have HO := Lib.hid ho; have HDV := Lib.hid hdv; have HDL := Lib.hid hdl
    have HN := Lib.hid (natNorm g 0 c' ds m w2 hdl (by omega) HCC.out.1 (wb_cells hwb (by rw [hdl]; have := HL.out; have := HCC.out.1; omega)))
    clear hwb ho hdv hdl hdb
    go_wp2_with (fail)
    go_at_call 221
    refine HN.out.mono ?_
    rintro e w3 ⟨es, rfl, rfl, he, hN2, hve⟩
    have HEN := Lib.hid (norm_end (N := q) HM.out HO.out HW.out HL.out ⟨by have := HCC.out.1; omega, HCC.out.2⟩ (by rw [HDL.out]; have := HCC.out.1; omega) he hN2 hve HDV.out)
    clear he hN2 hve
    go_wp2
    go_ret2
    obtain ⟨A2, c2, g2, ws2, he2, hv2, hn2, hN3, ho2, hg2⟩ := HEN.out
    injection he2 with he2; injection he2 with h1 h2 h3
    subst h1; subst h3
    exact ⟨some ⟨g, 0, none⟩, c', ws2, by rw [← h2]; rfl, hv2.le, hv2.words, hn2, hN3, Only.ext (Ext.refl _) ho2 (Nat.le_refl _)⟩

set_option maxRecDepth 100000 in
/-- div by 10^18, receivers nil. -/
theorem gDivT (B D : Option Addr) (cb cd : Nat) (xs : List Nat) (m : Nat) (w : World) (hx : Words w B xs) (hN : Norm xs) (hm : xs.length = m) (hmx : m ≤ 100000) (hcb : m ≤ cb) (hy : Words w D [1000000000000000000]) :
    Calls Tryz.prog 234 #[.slice none 0 0, .pointer none, .slice none 0 0, .slice B m cb, .slice D 1 cd] w (RetQR (natOf xs / 1000000000000000000) (natOf xs % 1000000000000000000) w) := by
  obtain ⟨by0, oy, rfl, ⟨cs, hbl⟩, hcell⟩ := hy.2 (by simp)
  have hcy : w.cell? ⟨by0, oy, none⟩ = some (.int .u64 1000000000000000000) := hcell 0 (by simp)
  have H := Lib.hid (gDivWT B cb xs m w hx hN hm hmx hcb)
  obtain ⟨q, hq⟩ : ∃ q, q = natOf xs / 1000000000000000000 := ⟨_, rfl⟩
  obtain ⟨r, hr⟩ : ∃ r, r = natOf xs % 1000000000000000000 := ⟨_, rfl⟩
  have HRB := Lib.hid (show r < B64 by rw [hr]; exact Nat.lt_trans (Nat.mod_lt _ (by omega)) (show 1000000000000000000 < B64 by unfold B64; omega))
  rw [← hq, ← hr] at H
  rw [← hq, ← hr]
  clear hx hN hm hcb hy hcell hq hr hmx
  go_enter Tryz.func234, Tryz.ntmps234
  go_wp2_with (fail)
  go_at_call 281
  refine H.out.mono ?_
  rintro e w1 ⟨A1, c1, ws, rfl, hR⟩
  have HR := Lib.hid hR; clear hR
  have HS := Lib.hid (gSetWord none 0 0 w1.heap.size [] r w1 (NatV.nil _ _) HRB.out)
  go_wp2_with (fail)
  go_at_call 282
  refine HS.out.mono ?_
  rintro e w2 hr2
  obtain ⟨A2, c2, vs, rfl, hR2⟩ := RetN.nat hr2 (Nat.le_refl _)
  have HR2 := Lib.hid hR2; clear hR2 hr2
  go_wp2
  go_ret2
  obtain ⟨h1, h2, h3, h4, h5⟩ := HR.out
  obtain ⟨k1, k2, k3, k4, k5⟩ := HR2.out
  exact ⟨A1, c1, ws, A2, c2, vs, rfl, ⟨h1, h2.ext k5, h3, h4⟩, ⟨k1, k2, k3, k4⟩, h5.trans' k5⟩
end Go.Proofs.YtfafiahefjimdaaGreatDoor
