/-
  The digit loop of a division of two words by one: plain lemmas.
  bitsDiv64 and bitsDiv by any word whose top bit is set.
  reciprocalWord and divWW of any word.
  Division by any word into any receiver, in place too: divWVW, divW.
-/
import Derived.Test.YtfafiahefjimdaaGreatDoorGL
import Derived.WalkKit
import Derived.Test.YtfafiahefjimdaaGreatDoorGX
namespace Go.Proofs.YtfafiahefjimdaaGreatDoor

/-- One round: the digit is right, or it is lowered. -/
theorem dig_round {q r u u1 y1 y0 : Nat} (hI : q * y1 + r = u) (hu : u < y1 * H32 + y0) (hy0 : y0 < H32) (hu1 : u1 < H32) (hQ : (u * H32 + u1) / (y1 * H32 + y0) ≤ q) (hq : q ≤ H32 + 1) :
    q * y0 < B64 ∧ (q * y0 ≤ H32 * r + u1 → q = (u * H32 + u1) / (y1 * H32 + y0)) ∧
    ((H32 ≤ q ∨ H32 * r + u1 < q * y0) → 1 ≤ q ∧ (u * H32 + u1) / (y1 * H32 + y0) ≤ q - 1 ∧ (q - 1) * y1 + (r + y1) = u ∧ (H32 ≤ r + y1 → q - 1 = (u * H32 + u1) / (y1 * H32 + y0))) := by
  have hy : 0 < y1 * H32 + y0 := by omega
  have hp : q * y0 < B64 := by
    have h1 : q * y0 ≤ (H32 + 1) * (H32 - 1) := Nat.mul_le_mul hq (by omega)
    have h2 : (H32 + 1) * (H32 - 1) < B64 := by unfold H32 B64; decide
    omega
  refine ⟨hp, fun h => ?_, fun h => ?_⟩
  · have := dig_exit (b := H32) (u1 := u1) hI h
    exact Nat.le_antisymm ((Nat.le_div_iff_mul_le hy).2 this) hQ
  · have hd := dig_dec hI hu hu1 h
    have hlt : (u * H32 + u1) / (y1 * H32 + y0) < q := (Nat.div_lt_iff_lt_mul hy).2 hd
    have hq0 : 0 < q := Nat.zero_lt_of_lt hlt
    obtain ⟨p, rfl⟩ : ∃ p, q = p + 1 := ⟨q - 1, (Nat.succ_pred_eq_of_pos hq0).symm⟩
    have hle := Nat.le_of_lt_succ hlt
    refine ⟨by omega, hle, ?_, fun hb => ?_⟩
    · rw [Nat.add_sub_cancel, ← hI, Nat.add_mul]; omega
    · have hI2 : p * y1 + (r + y1) = u := by rw [← hI, Nat.add_mul]; omega
      have h3 : p * y0 ≤ H32 * (r + y1) + u1 := by
        have h4 : p * y0 ≤ H32 * H32 := Nat.mul_le_mul (by omega) (by omega)
        have h5 : H32 * H32 ≤ H32 * (r + y1) := Nat.mul_le_mul_left _ hb
        omega
      have := dig_exit (b := H32) (u1 := u1) hI2 h3
      exact Nat.le_antisymm ((Nat.le_div_iff_mul_le hy).2 this) hle
/-- The first guess of a digit. -/
theorem dig_first {u u1 y1 y0 : Nat} (hy1 : 0 < y1) (hu : u < y1 * H32 + y0) (hy0 : y0 < H32) (hu1 : u1 < H32) (hn : H32 ≤ 2 * y1) :
    (u * H32 + u1) / (y1 * H32 + y0) ≤ u / y1 ∧ u / y1 ≤ H32 + 1 ∧ u / y1 * y1 + u % y1 = u ∧ (u * H32 + u1) / (y1 * H32 + y0) < H32 := by
  have hy : 0 < y1 * H32 + y0 := by omega
  refine ⟨?_, dig_top hy1 hu hy0 hn, by rw [Nat.mul_comm]; exact Nat.div_add_mod u y1, ?_⟩
  · exact Nat.le_of_lt_succ ((Nat.div_lt_iff_lt_mul hy).2 (dig_start (u := u) (y0 := y0) hy1 hu1))
  · refine (Nat.div_lt_iff_lt_mul hy).2 ?_
    have h1 : (u + 1) * H32 ≤ (y1 * H32 + y0) * H32 := Nat.mul_le_mul_right _ hu
    rw [Nat.mul_comm H32]
    rw [Nat.add_mul, Nat.one_mul] at h1
    generalize (y1 * H32 + y0) * H32 = t at h1 ⊢
    omega
/-- Both digits: the quotient and the rest of two words by one. -/
theorem dig_both (u u1 u0 y : Nat) :
    (u * H32 + u1) / y * H32 + ((u * H32 + u1) % y * H32 + u0) / y = (u * B64 + (u1 * H32 + u0)) / y ∧ ((u * H32 + u1) % y * H32 + u0) % y = (u * B64 + (u1 * H32 + u0)) % y := by
  have e : u * B64 + (u1 * H32 + u0) = (u * H32 + u1) * H32 + u0 := by rw [B64_HH, Nat.add_mul, Nat.mul_assoc]; omega
  rw [e]
  exact two_digits (u := u) (a := u1) (c := u0) (y := y) (b := H32)
/-- A rest, reckoned modulo 2^64. -/
theorem dig_rest {U q y : Nat} (hq : q = U / y) (_ : U % y < B64) : ((U : Int) - (q : Int) * (y : Int)) % 18446744073709551616 = ((U % y : Nat) : Int) := by
  have h := Nat.div_add_mod U y
  rw [← hq, Nat.mul_comm] at h
  obtain ⟨p, hp⟩ : ∃ p, p = q * y := ⟨_, rfl⟩
  rw [← hp] at h
  have hc : (q : Int) * (y : Int) = (p : Int) := by rw [hp]; simp
  rw [hc]
  unfold B64 at *
  omega
/-- The facts of the first guess, in the walk's spelling. -/
theorem dig_lay {u u1 y1 y0 : Nat} (hy1 : 0 < y1) (hu : u < y1 * H32 + y0) (hy0 : y0 < H32) (hu1 : u1 < H32) (hn : H32 ≤ 2 * y1) (hyH : y1 < H32) :
    ∃ g p r : Nat, IntKind.u64.wrap ((u : Int) / (y1 : Int)) = (g : Int) ∧ IntKind.u64.wrap ((g : Int) * (y1 : Int)) = (p : Int) ∧ IntKind.u64.wrap ((u : Int) - (p : Int)) = (r : Int) ∧
      g * y1 + r = u ∧ (u * H32 + u1) / (y1 * H32 + y0) ≤ g ∧ g ≤ H32 + 1 ∧ r < H32 := by
  obtain ⟨h1, h2, h3, _⟩ := dig_first hy1 hu hy0 hu1 hn
  have hr := Nat.mod_lt u hy1
  have huB : u < 18446744073709551616 := by
    have : (y1 + 1) * H32 ≤ H32 * H32 := Nat.mul_le_mul_right _ hyH
    rw [Nat.add_mul, Nat.one_mul] at this
    have h4 : H32 * H32 = 18446744073709551616 := by unfold H32; rfl
    omega
  refine ⟨u / y1, u / y1 * y1, u % y1, ?_, ?_, ?_, h3, h1, h2, by omega⟩
  · have e : (u : Int) / (y1 : Int) = ((u / y1 : Nat) : Int) := rfl
    have hle := Nat.div_le_self u y1
    rw [e, IntKind.wrap_u64]
    generalize u / y1 = g at hle ⊢
    omega
  · have e : ((u / y1 : Nat) : Int) * (y1 : Int) = ((u / y1 * y1 : Nat) : Int) := (Int.natCast_mul _ _).symm
    rw [e, IntKind.wrap_u64]
    generalize u / y1 * y1 = g at h3 ⊢
    omega
  · rw [IntKind.wrap_u64]
    generalize u / y1 * y1 = g at h3 ⊢
    generalize u % y1 = g' at h3 ⊢
    omega
/-- The facts of the rest behind a digit. -/
theorem dig_lay2 {u u1 y Q R : Nat} (hQ : Q = (u * H32 + u1) / y) (hR : R = (u * H32 + u1) % y) (hR2 : R < B64) :
    ∃ t1 t2 t3 : Nat, IntKind.u64.wrap ((u : Int) * 4294967296) = (t1 : Int) ∧ IntKind.u64.wrap ((t1 : Int) + (u1 : Int)) = (t2 : Int) ∧ IntKind.u64.wrap ((Q : Int) * (y : Int)) = (t3 : Int) ∧ IntKind.u64.wrap ((t2 : Int) - (t3 : Int)) = (R : Int) := by
  have h := Nat.div_add_mod (u * H32 + u1) y
  rw [← hQ, ← hR, Nat.mul_comm] at h
  obtain ⟨p, hp⟩ : ∃ p, p = Q * y := ⟨_, rfl⟩
  rw [← hp] at h
  have hc : (Q : Int) * (y : Int) = (p : Int) := by rw [hp]; exact (Int.natCast_mul _ _).symm
  unfold H32 at h
  unfold B64 at hR2
  refine ⟨u * 4294967296 % 18446744073709551616, (u * 4294967296 % 18446744073709551616 + u1) % 18446744073709551616, p % 18446744073709551616, ?_, ?_, ?_, ?_⟩
  · rw [IntKind.wrap_u64]; omega
  · rw [IntKind.wrap_u64]; omega
  · rw [hc, IntKind.wrap_u64]; omega
  · rw [IntKind.wrap_u64]; omega
/-- A round's facts, in the walk's spelling. -/
theorem dig_lay3 {q y0 : Nat} (h : q * y0 < B64) : IntKind.u64.wrap ((q : Int) * (y0 : Int)) = ((q * y0 : Nat) : Int) := by
  have e : (q : Int) * (y0 : Int) = ((q * y0 : Nat) : Int) := (Int.natCast_mul _ _).symm
  unfold B64 at h
  rw [e, IntKind.wrap_u64]
  generalize q * y0 = g at h ⊢
  omega
end Go.Proofs.YtfafiahefjimdaaGreatDoor

namespace Go.Proofs.YtfafiahefjimdaaGreatDoor
open Go Go.RowKit

theorem halves {x : Nat} (hx : x < B64) : (x : Int) / 4294967296 = ((x / H32 : Nat) : Int) ∧ bits .and .u64 (x : Int) 4294967295 = ((x % H32 : Nat) : Int) ∧ x / H32 < H32 ∧ x % H32 < H32 ∧ x / H32 * H32 + x % H32 = x := by
  unfold B64 at hx
  unfold H32
  refine ⟨by omega, ?_, by omega, by omega, by omega⟩
  have := bits_and_u64_nat x 4294967295 hx (by omega)
  rw [show ((4294967295 : Nat) : Int) = 4294967295 from rfl] at this
  rw [this, show (4294967295 : Nat) = 2 ^ 32 - 1 from rfl, Nat.and_two_pow_sub_one_eq_mod]

set_option maxRecDepth 100000 in
set_option maxHeartbeats 4000000 in
theorem bDivN (u lo y : Nat) (w : World) (hn : B64 ≤ 2 * y) (hyB : y < B64) (hu : u < y) (hu0 : 0 < u) (hlo : lo < B64) (hbl : Lib.bitLen y = 64) :
    Calls Tryz.prog 373 #[.int .u64 u, .int .u64 lo, .int .u64 y] w (fun e w' => e = .returned (.tuple #[.int .u64 (((u * B64 + lo) / y : Nat) : Int), .int .u64 (((u * B64 + lo) % y : Nat) : Int)]) ∧ w' = w) := by
  have HZ := Lib.hid (fun W => bLeadZ64 y W hyB)
  rw [hbl] at HZ
  rw [show (64 - ((64 : Nat) : Int)) = 0 by decide] at HZ
  obtain ⟨a1, a2, k1, k2, k3⟩ := halves hyB
  obtain ⟨a5, a6, k4, k5, k6⟩ := halves hlo
  obtain ⟨y1, hy1⟩ : ∃ y1, y1 = y / H32 := ⟨_, rfl⟩
  obtain ⟨y0, hy0⟩ : ∃ y0, y0 = y % H32 := ⟨_, rfl⟩
  obtain ⟨u1, hu1⟩ : ∃ u1, u1 = lo / H32 := ⟨_, rfl⟩
  obtain ⟨u0, hu00⟩ : ∃ u0, u0 = lo % H32 := ⟨_, rfl⟩
  rw [← hy1] at a1 k1 k3
  rw [← hy0] at a2 k2 k3
  rw [← hu1] at a5 k4 k6
  rw [← hu00] at a6 k5 k6
  clear hy1 hy0 hu1 hu00 hbl
  have kn : H32 ≤ 2 * y1 := by unfold B64 at hn; unfold H32 at k2 k3 ⊢; omega
  have k0 : 0 < y1 := by unfold H32 at kn; omega
  have hb := dig_both u u1 u0 y
  rw [k6] at hb
  obtain ⟨Q1, hQ1⟩ : ∃ Q, Q = (u * H32 + u1) / y := ⟨_, rfl⟩
  obtain ⟨R1, hR1⟩ : ∃ R, R = (u * H32 + u1) % y := ⟨_, rfl⟩
  have hR1y : R1 < y := by rw [hR1]; exact Nat.mod_lt _ (by omega)
  obtain ⟨Q0, hQ0⟩ : ∃ Q, Q = (R1 * H32 + u0) / y := ⟨_, rfl⟩
  obtain ⟨R0, hR0⟩ : ∃ R, R = (R1 * H32 + u0) % y := ⟨_, rfl⟩
  have hR0y : R0 < y := by rw [hR0]; exact Nat.mod_lt _ (by omega)
  rw [← hQ1, ← hR1, ← hQ0, ← hR0] at hb
  rw [← hb.1, ← hb.2]
  obtain ⟨t1, t2, t3, c1, c2, c3, c4⟩ := dig_lay2 hQ1 hR1 (by omega)
  obtain ⟨s1, s2, s3, d1, d2, d3, d4⟩ := dig_lay2 hQ0 hR0 (by omega)
  have hQ1H : Q1 < H32 := by
    have := (dig_first k0 (by rw [k3]; exact hu) k2 k4 kn).2.2.2
    rw [k3, ← hQ1] at this; exact this
  have hQ0H : Q0 < H32 := by
    have := (dig_first k0 (by rw [k3]; exact hR1y) k2 k5 kn).2.2.2
    rw [k3, ← hQ0] at this; exact this
  have f1 : IntKind.u64.wrap ((Q1 : Int) * 4294967296) = ((Q1 * H32 : Nat) : Int) := by unfold H32 at hQ1H ⊢; rw [IntKind.wrap_u64]; omega
  have f2 : IntKind.u64.wrap (((Q1 * H32 : Nat) : Int) + (Q0 : Int)) = ((Q1 * H32 + Q0 : Nat) : Int) := by unfold H32 at hQ1H hQ0H ⊢; rw [IntKind.wrap_u64]; omega
  obtain ⟨g1, p1, r1, l1, l2, l3, hl1⟩ := dig_lay (u1 := u1) k0 (by rw [k3]; exact hu) k2 k4 kn k1
  obtain ⟨g0, p0, r0, m1, m2, m3, hm1⟩ := dig_lay (u1 := u0) k0 (by rw [k3]; exact hR1y) k2 k5 kn k1
  rw [k3, ← hQ1] at hl1
  rw [k3, ← hQ0] at hm1
  have HL := Lib.hid hl1; have HM := Lib.hid hm1
  have HR := Lib.hid (fun q r (hI : q * y1 + r = u) (h2 : Q1 ≤ q) (h3 : q ≤ H32 + 1) => dig_round hI (by rw [k3]; exact hu) k2 k4 (by rw [k3, ← hQ1]; exact h2) h3)
  have HR' := Lib.hid (fun q r (hI : q * y1 + r = R1) (h2 : Q0 ≤ q) (h3 : q ≤ H32 + 1) => dig_round hI (by rw [k3]; exact hR1y) k2 k5 (by rw [k3, ← hQ0]; exact h2) h3)
  rw [k3, ← hQ1] at HR
  rw [k3, ← hQ0] at HR'
  obtain ⟨q12, hq12⟩ : ∃ q : Nat, q = Q1 * H32 := ⟨_, rfl⟩
  rw [← hq12] at f1 f2
  obtain ⟨qq, hqq⟩ : ∃ q : Nat, q = q12 + Q0 := ⟨_, rfl⟩
  rw [← hqq] at f2
  rw [← hq12, ← hqq]
  clear hq12 hqq
  unfold B64 at hn hyB hlo
  have a3 : (lo : Int) / 18446744073709551616 = 0 := by omega
  have a4 : bits .or .u64 (u : Int) 0 = (u : Int) := by
    have := bits_or_u64_nat u 0 (by omega) (by omega)
    rw [show ((0 : Nat) : Int) = 0 from rfl] at this
    rw [this, Nat.or_zero]
  have e0 : ((y : Int) == 0) = false := by simp; omega
  have e1 : ¬ (y : Int) ≤ (u : Int) := by omega
  have e2 : ((u : Int) == 0) = false := by simp; omega
  have b1 : (u : Int) ≤ 18446744073709551615 := by omega
  have b2 : (y : Int) ≤ 18446744073709551615 := by omega
  have b3 : (lo : Int) ≤ 18446744073709551615 := by omega
  have hy10 : ¬ y1 = 0 := by omega
  have hyi : ((y1 : Nat) : Int) ≤ 4294967295 := by unfold H32 at k1; omega
  have hu1i : ((u1 : Nat) : Int) ≤ 4294967295 := by unfold H32 at k4; omega
  have hu0i : ((u0 : Nat) : Int) ≤ 4294967295 := by unfold H32 at k5; omega
  clear hl1 hm1 hQ1 hR1 hQ0 hR0 k1 k2 k3 k4 k5 k6 kn k0 hb hR1y hR0y hQ1H hQ0H hn hyB hlo hu hu0
  go_enter Tryz.func373, Tryz.ntmps373
  go_wp2_with (go_at_call 390; (with_reducible refine (HZ.out _).mono ?_); rintro e w' ⟨rfl, hw⟩; obtain rfl := hw.symm)
  go_loop [15, 16] (fun a b => ∃ q r : Nat, q * y1 + r = u ∧ Q1 ≤ q ∧ q ≤ H32 + 1 ∧ r < H32 ∧ a = .int .u64 q ∧ b = .int .u64 r) (fun a _ => match a with | .int _ z => z.toNat | _ => 0)
  case atStart => exact ⟨g1, r1, HL.out.1, HL.out.2.1, HL.out.2.2.1, HL.out.2.2.2, rfl, rfl⟩
  case round =>
    obtain ⟨q, r, hI, hQq, hqH, hrH, rfl, rfl⟩ := hrel
    obtain ⟨n1, n2, n3⟩ := HR.out q r hI hQq hqH
    have n4 := dig_lay3 n1
    obtain ⟨p, hp⟩ : ∃ p, p = q * y0 := ⟨_, rfl⟩
    rw [← hp] at n1 n2 n3 n4
    have hri : (r : Int) ≤ 4294967295 := by unfold H32 at hrH; omega
    have hqi : (q : Int) ≤ 4294967297 := by unfold H32 at hqH; omega
    by_cases hex : q < H32 ∧ p ≤ H32 * r + u1
    · obtain rfl := n2 hex.2
      have t1' : ¬ (4294967296 : Int) ≤ (q : Int) := by have := hex.1; unfold H32 at this; omega
      have t2' : ¬ 4294967296 * (r : Int) + (u1 : Int) < (p : Int) := by have := hex.2; unfold H32 at this; omega
      clear n1 n2 n3 hI hQq hqH hrH hp hex
      go_wp2
      go_loop [18, 16] (fun a b => ∃ q r : Nat, q * y1 + r = R1 ∧ Q0 ≤ q ∧ q ≤ H32 + 1 ∧ r < H32 ∧ a = .int .u64 q ∧ b = .int .u64 r) (fun a _ => match a with | .int _ z => z.toNat | _ => 0)
      case atStart => exact ⟨g0, r0, HM.out.1, HM.out.2.1, HM.out.2.2.1, HM.out.2.2.2, rfl, rfl⟩
      case round =>
        obtain ⟨k, r', hI, hQq, hqH, hrH, rfl, rfl⟩ := hrel
        obtain ⟨n1, n2, n3⟩ := HR'.out k r' hI hQq hqH
        have n4 := dig_lay3 n1
        obtain ⟨p', hp⟩ : ∃ p, p = k * y0 := ⟨_, rfl⟩
        rw [← hp] at n1 n2 n3 n4
        have hri' : (r' : Int) ≤ 4294967295 := by unfold H32 at hrH; omega
        have hki : (k : Int) ≤ 4294967297 := by unfold H32 at hqH; omega
        by_cases hex : k < H32 ∧ p' ≤ H32 * r' + u0
        · obtain rfl := n2 hex.2
          have t1' : ¬ (4294967296 : Int) ≤ (k : Int) := by have := hex.1; unfold H32 at this; omega
          have t2' : ¬ 4294967296 * (r' : Int) + (u0 : Int) < (p' : Int) := by have := hex.2; unfold H32 at this; omega
          clear n1 n2 n3 hI hQq hqH hrH hp hex
          go_wp2
          go_ret2
          exact ⟨rfl, rfl⟩
        · have hc : H32 ≤ k ∨ H32 * r' + u0 < p' := by omega
          obtain ⟨v1, v2, v3, v4⟩ := n3 hc
          obtain ⟨k', hkk⟩ : ∃ k', k = k' + 1 := ⟨k - 1, by omega⟩
          have hqek : (k : Int) - 1 = (k' : Int) := by omega
          have hq1k : (1 : Int) ≤ (k : Int) := by omega
          rw [hkk, Nat.add_sub_cancel] at v2 v3 v4
          by_cases hbr : H32 ≤ r' + y1
          · obtain rfl := v4 hbr
            have t3' : 4294967296 ≤ (r' : Int) + (y1 : Int) := by unfold H32 at hbr; omega
            rcases (by omega : H32 ≤ k ∨ (¬ H32 ≤ k ∧ H32 * r' + u0 < p')) with h1 | ⟨h1, h2⟩
            · have t1' : (4294967296 : Int) ≤ (k : Int) := by unfold H32 at h1; omega
              clear n1 n2 n3 hI hQq hqH hrH hp hex v1 v2 v3 v4 hbr hc h1 hkk
              go_wp2
              go_ret2
              exact ⟨rfl, rfl⟩
            · have t1' : ¬ (4294967296 : Int) ≤ (k : Int) := by unfold H32 at h1; omega
              have t2' : 4294967296 * (r' : Int) + (u0 : Int) < (p' : Int) := by unfold H32 at h2; omega
              clear n1 n2 n3 hI hQq hqH hrH hp hex v1 v2 v3 v4 hbr hc h1 h2 hkk
              go_wp2
              go_ret2
              exact ⟨rfl, rfl⟩
          · have t3' : ¬ 4294967296 ≤ (r' : Int) + (y1 : Int) := by unfold H32 at hbr; omega
            have HK := Lib.hid (show k' * y1 + (r' + y1) = R1 ∧ Q0 ≤ k' ∧ k' ≤ H32 + 1 ∧ r' + y1 < H32 from ⟨v3, v2, by omega, by omega⟩)
            rcases (by omega : H32 ≤ k ∨ (¬ H32 ≤ k ∧ H32 * r' + u0 < p')) with h1 | ⟨h1, h2⟩
            · have t1' : (4294967296 : Int) ≤ (k : Int) := by unfold H32 at h1; omega
              clear n1 n2 n3 hI hQq hqH hrH hp hex v1 v2 v3 v4 hbr hc h1 hkk
              go_wp2
              go_round
              case rel => exact ⟨k', r' + y1, HK.out.1, HK.out.2.1, HK.out.2.2.1, HK.out.2.2.2, by go_num, by go_num⟩
              case measure => first | (simp; done) | (simp; omega)
            · have t1' : ¬ (4294967296 : Int) ≤ (k : Int) := by unfold H32 at h1; omega
              have t2' : 4294967296 * (r' : Int) + (u0 : Int) < (p' : Int) := by unfold H32 at h2; omega
              clear n1 n2 n3 hI hQq hqH hrH hp hex v1 v2 v3 v4 hbr hc h1 h2 hkk
              go_wp2
              go_round
              case rel => exact ⟨k', r' + y1, HK.out.1, HK.out.2.1, HK.out.2.2.1, HK.out.2.2.2, by go_num, by go_num⟩
              case measure => first | (simp; done) | (simp; omega)
    · have hc : H32 ≤ q ∨ H32 * r + u1 < p := by omega
      obtain ⟨v1, v2, v3, v4⟩ := n3 hc
      obtain ⟨q', hkq⟩ : ∃ q', q = q' + 1 := ⟨q - 1, by omega⟩
      have hqeq : (q : Int) - 1 = (q' : Int) := by omega
      have hq1q : (1 : Int) ≤ (q : Int) := by omega
      rw [hkq, Nat.add_sub_cancel] at v2 v3 v4
      by_cases hbr : H32 ≤ r + y1
      · obtain rfl := v4 hbr
        have t3' : 4294967296 ≤ (r : Int) + (y1 : Int) := by unfold H32 at hbr; omega
        rcases (by omega : H32 ≤ q ∨ (¬ H32 ≤ q ∧ H32 * r + u1 < p)) with h1 | ⟨h1, h2⟩
        · have t1' : (4294967296 : Int) ≤ (q : Int) := by unfold H32 at h1; omega
          clear n1 n2 n3 hI hQq hqH hrH hp hex v1 v2 v3 v4 hbr hc h1 hkq
          go_wp2
          go_loop [18, 16] (fun a b => ∃ q r : Nat, q * y1 + r = R1 ∧ Q0 ≤ q ∧ q ≤ H32 + 1 ∧ r < H32 ∧ a = .int .u64 q ∧ b = .int .u64 r) (fun a _ => match a with | .int _ z => z.toNat | _ => 0)
          case atStart => exact ⟨g0, r0, HM.out.1, HM.out.2.1, HM.out.2.2.1, HM.out.2.2.2, rfl, rfl⟩
          case round =>
            obtain ⟨k, r', hI, hQq, hqH, hrH, rfl, rfl⟩ := hrel
            obtain ⟨n1, n2, n3⟩ := HR'.out k r' hI hQq hqH
            have n4 := dig_lay3 n1
            obtain ⟨p', hp⟩ : ∃ p, p = k * y0 := ⟨_, rfl⟩
            rw [← hp] at n1 n2 n3 n4
            have hri' : (r' : Int) ≤ 4294967295 := by unfold H32 at hrH; omega
            have hki : (k : Int) ≤ 4294967297 := by unfold H32 at hqH; omega
            by_cases hex : k < H32 ∧ p' ≤ H32 * r' + u0
            · obtain rfl := n2 hex.2
              have t1' : ¬ (4294967296 : Int) ≤ (k : Int) := by have := hex.1; unfold H32 at this; omega
              have t2' : ¬ 4294967296 * (r' : Int) + (u0 : Int) < (p' : Int) := by have := hex.2; unfold H32 at this; omega
              clear n1 n2 n3 hI hQq hqH hrH hp hex
              go_wp2
              go_ret2
              exact ⟨rfl, rfl⟩
            · have hc : H32 ≤ k ∨ H32 * r' + u0 < p' := by omega
              obtain ⟨v1, v2, v3, v4⟩ := n3 hc
              obtain ⟨k', hkk⟩ : ∃ k', k = k' + 1 := ⟨k - 1, by omega⟩
              have hqek : (k : Int) - 1 = (k' : Int) := by omega
              have hq1k : (1 : Int) ≤ (k : Int) := by omega
              rw [hkk, Nat.add_sub_cancel] at v2 v3 v4
              by_cases hbr : H32 ≤ r' + y1
              · obtain rfl := v4 hbr
                have t3' : 4294967296 ≤ (r' : Int) + (y1 : Int) := by unfold H32 at hbr; omega
                rcases (by omega : H32 ≤ k ∨ (¬ H32 ≤ k ∧ H32 * r' + u0 < p')) with h1 | ⟨h1, h2⟩
                · have t1' : (4294967296 : Int) ≤ (k : Int) := by unfold H32 at h1; omega
                  clear n1 n2 n3 hI hQq hqH hrH hp hex v1 v2 v3 v4 hbr hc h1 hkk
                  go_wp2
                  go_ret2
                  exact ⟨rfl, rfl⟩
                · have t1' : ¬ (4294967296 : Int) ≤ (k : Int) := by unfold H32 at h1; omega
                  have t2' : 4294967296 * (r' : Int) + (u0 : Int) < (p' : Int) := by unfold H32 at h2; omega
                  clear n1 n2 n3 hI hQq hqH hrH hp hex v1 v2 v3 v4 hbr hc h1 h2 hkk
                  go_wp2
                  go_ret2
                  exact ⟨rfl, rfl⟩
              · have t3' : ¬ 4294967296 ≤ (r' : Int) + (y1 : Int) := by unfold H32 at hbr; omega
                have HK := Lib.hid (show k' * y1 + (r' + y1) = R1 ∧ Q0 ≤ k' ∧ k' ≤ H32 + 1 ∧ r' + y1 < H32 from ⟨v3, v2, by omega, by omega⟩)
                rcases (by omega : H32 ≤ k ∨ (¬ H32 ≤ k ∧ H32 * r' + u0 < p')) with h1 | ⟨h1, h2⟩
                · have t1' : (4294967296 : Int) ≤ (k : Int) := by unfold H32 at h1; omega
                  clear n1 n2 n3 hI hQq hqH hrH hp hex v1 v2 v3 v4 hbr hc h1 hkk
                  go_wp2
                  go_round
                  case rel => exact ⟨k', r' + y1, HK.out.1, HK.out.2.1, HK.out.2.2.1, HK.out.2.2.2, by go_num, by go_num⟩
                  case measure => first | (simp; done) | (simp; omega)
                · have t1' : ¬ (4294967296 : Int) ≤ (k : Int) := by unfold H32 at h1; omega
                  have t2' : 4294967296 * (r' : Int) + (u0 : Int) < (p' : Int) := by unfold H32 at h2; omega
                  clear n1 n2 n3 hI hQq hqH hrH hp hex v1 v2 v3 v4 hbr hc h1 h2 hkk
                  go_wp2
                  go_round
                  case rel => exact ⟨k', r' + y1, HK.out.1, HK.out.2.1, HK.out.2.2.1, HK.out.2.2.2, by go_num, by go_num⟩
                  case measure => first | (simp; done) | (simp; omega)
        · have t1' : ¬ (4294967296 : Int) ≤ (q : Int) := by unfold H32 at h1; omega
          have t2' : 4294967296 * (r : Int) + (u1 : Int) < (p : Int) := by unfold H32 at h2; omega
          clear n1 n2 n3 hI hQq hqH hrH hp hex v1 v2 v3 v4 hbr hc h1 h2 hkq
          go_wp2
          go_loop [18, 16] (fun a b => ∃ q r : Nat, q * y1 + r = R1 ∧ Q0 ≤ q ∧ q ≤ H32 + 1 ∧ r < H32 ∧ a = .int .u64 q ∧ b = .int .u64 r) (fun a _ => match a with | .int _ z => z.toNat | _ => 0)
          case atStart => exact ⟨g0, r0, HM.out.1, HM.out.2.1, HM.out.2.2.1, HM.out.2.2.2, rfl, rfl⟩
          case round =>
            obtain ⟨k, r', hI, hQq, hqH, hrH, rfl, rfl⟩ := hrel
            obtain ⟨n1, n2, n3⟩ := HR'.out k r' hI hQq hqH
            have n4 := dig_lay3 n1
            obtain ⟨p', hp⟩ : ∃ p, p = k * y0 := ⟨_, rfl⟩
            rw [← hp] at n1 n2 n3 n4
            have hri' : (r' : Int) ≤ 4294967295 := by unfold H32 at hrH; omega
            have hki : (k : Int) ≤ 4294967297 := by unfold H32 at hqH; omega
            by_cases hex : k < H32 ∧ p' ≤ H32 * r' + u0
            · obtain rfl := n2 hex.2
              have t1' : ¬ (4294967296 : Int) ≤ (k : Int) := by have := hex.1; unfold H32 at this; omega
              have t2' : ¬ 4294967296 * (r' : Int) + (u0 : Int) < (p' : Int) := by have := hex.2; unfold H32 at this; omega
              clear n1 n2 n3 hI hQq hqH hrH hp hex
              go_wp2
              go_ret2
              exact ⟨rfl, rfl⟩
            · have hc : H32 ≤ k ∨ H32 * r' + u0 < p' := by omega
              obtain ⟨v1, v2, v3, v4⟩ := n3 hc
              obtain ⟨k', hkk⟩ : ∃ k', k = k' + 1 := ⟨k - 1, by omega⟩
              have hqek : (k : Int) - 1 = (k' : Int) := by omega
              have hq1k : (1 : Int) ≤ (k : Int) := by omega
              rw [hkk, Nat.add_sub_cancel] at v2 v3 v4
              by_cases hbr : H32 ≤ r' + y1
              · obtain rfl := v4 hbr
                have t3' : 4294967296 ≤ (r' : Int) + (y1 : Int) := by unfold H32 at hbr; omega
                rcases (by omega : H32 ≤ k ∨ (¬ H32 ≤ k ∧ H32 * r' + u0 < p')) with h1 | ⟨h1, h2⟩
                · have t1' : (4294967296 : Int) ≤ (k : Int) := by unfold H32 at h1; omega
                  clear n1 n2 n3 hI hQq hqH hrH hp hex v1 v2 v3 v4 hbr hc h1 hkk
                  go_wp2
                  go_ret2
                  exact ⟨rfl, rfl⟩
                · have t1' : ¬ (4294967296 : Int) ≤ (k : Int) := by unfold H32 at h1; omega
                  have t2' : 4294967296 * (r' : Int) + (u0 : Int) < (p' : Int) := by unfold H32 at h2; omega
                  clear n1 n2 n3 hI hQq hqH hrH hp hex v1 v2 v3 v4 hbr hc h1 h2 hkk
                  go_wp2
                  go_ret2
                  exact ⟨rfl, rfl⟩
              · have t3' : ¬ 4294967296 ≤ (r' : Int) + (y1 : Int) := by unfold H32 at hbr; omega
                have HK := Lib.hid (show k' * y1 + (r' + y1) = R1 ∧ Q0 ≤ k' ∧ k' ≤ H32 + 1 ∧ r' + y1 < H32 from ⟨v3, v2, by omega, by omega⟩)
                rcases (by omega : H32 ≤ k ∨ (¬ H32 ≤ k ∧ H32 * r' + u0 < p')) with h1 | ⟨h1, h2⟩
                · have t1' : (4294967296 : Int) ≤ (k : Int) := by unfold H32 at h1; omega
                  clear n1 n2 n3 hI hQq hqH hrH hp hex v1 v2 v3 v4 hbr hc h1 hkk
                  go_wp2
                  go_round
                  case rel => exact ⟨k', r' + y1, HK.out.1, HK.out.2.1, HK.out.2.2.1, HK.out.2.2.2, by go_num, by go_num⟩
                  case measure => first | (simp; done) | (simp; omega)
                · have t1' : ¬ (4294967296 : Int) ≤ (k : Int) := by unfold H32 at h1; omega
                  have t2' : 4294967296 * (r' : Int) + (u0 : Int) < (p' : Int) := by unfold H32 at h2; omega
                  clear n1 n2 n3 hI hQq hqH hrH hp hex v1 v2 v3 v4 hbr hc h1 h2 hkk
                  go_wp2
                  go_round
                  case rel => exact ⟨k', r' + y1, HK.out.1, HK.out.2.1, HK.out.2.2.1, HK.out.2.2.2, by go_num, by go_num⟩
                  case measure => first | (simp; done) | (simp; omega)
      · have t3' : ¬ 4294967296 ≤ (r : Int) + (y1 : Int) := by unfold H32 at hbr; omega
        have HK := Lib.hid (show q' * y1 + (r + y1) = u ∧ Q1 ≤ q' ∧ q' ≤ H32 + 1 ∧ r + y1 < H32 from ⟨v3, v2, by omega, by omega⟩)
        rcases (by omega : H32 ≤ q ∨ (¬ H32 ≤ q ∧ H32 * r + u1 < p)) with h1 | ⟨h1, h2⟩
        · have t1' : (4294967296 : Int) ≤ (q : Int) := by unfold H32 at h1; omega
          clear n1 n2 n3 hI hQq hqH hrH hp hex v1 v2 v3 v4 hbr hc h1 hkq
          go_wp2
          go_round
          case rel => exact ⟨q', r + y1, HK.out.1, HK.out.2.1, HK.out.2.2.1, HK.out.2.2.2, by go_num, by go_num⟩
          case measure => first | (simp; done) | (simp; omega)
        · have t1' : ¬ (4294967296 : Int) ≤ (q : Int) := by unfold H32 at h1; omega
          have t2' : 4294967296 * (r : Int) + (u1 : Int) < (p : Int) := by unfold H32 at h2; omega
          clear n1 n2 n3 hI hQq hqH hrH hp hex v1 v2 v3 v4 hbr hc h1 h2 hkq
          go_wp2
          go_round
          case rel => exact ⟨q', r + y1, HK.out.1, HK.out.2.1, HK.out.2.2.1, HK.out.2.2.2, by go_num, by go_num⟩
          case measure => first | (simp; done) | (simp; omega)
end Go.Proofs.YtfafiahefjimdaaGreatDoor

namespace Go.Proofs.YtfafiahefjimdaaGreatDoor
open Go Go.RowKit

theorem blen_iff {x : Nat} (hx : x < B64) : x < 2 ^ Lib.bitLen x ∧ (x ≠ 0 → 2 ^ (Lib.bitLen x - 1) ≤ x ∧ 1 ≤ Lib.bitLen x) ∧ Lib.bitLen x ≤ 64 := by
  have h64 : x < 2 ^ 64 := by unfold B64 at hx; exact hx
  have hge : ∀ k, 2 ^ k ≤ x → k + 1 ≤ Lib.bitLen x := by
    intro k hk
    rw [Lib.bitLen_shift k x hk h64]
    have h1 : 1 ≤ x / 2 ^ k := Nat.div_pos hk (Nat.pow_pos (by omega))
    have h2 : x / 2 ^ k < 2 ^ 64 := Nat.lt_of_le_of_lt (Nat.div_le_self _ _) h64
    rw [Lib.bitLen_half _ (by omega) h2]
    omega
  have hle : Lib.bitLen x ≤ 64 := Lib.bitLen_le x 64 (Nat.le_refl _) h64
  refine ⟨?_, fun h0 => ⟨?_, hge 0 (by omega)⟩, hle⟩
  · rcases Nat.lt_or_ge x (2 ^ Lib.bitLen x) with h | h
    · exact h
    · have := hge _ h; omega
  · have h1 := hge 0 (by omega)
    rcases Nat.lt_or_ge x (2 ^ (Lib.bitLen x - 1)) with h | h
    · have := Lib.bitLen_le x (Lib.bitLen x - 1) (by omega) h
      omega
    · exact h
theorem blen_top {x : Nat} (hx : x < B64) (h : B64 ≤ 2 * x) : Lib.bitLen x = 64 := by
  obtain ⟨h1, _, h3⟩ := blen_iff hx
  rcases Nat.lt_or_ge (Lib.bitLen x) 64 with h4 | h4
  · have h5 : 2 ^ Lib.bitLen x ≤ 2 ^ 63 := Nat.pow_le_pow_right (by omega) (by omega)
    unfold B64 at h
    omega
  · omega
/-- A word moved up till its top bit is set. -/
theorem scale_up {d s : Nat} (h0 : 0 < d) (hd : d < B64) (hs : s = 64 - Lib.bitLen d) : d * 2 ^ s < B64 ∧ B64 ≤ 2 * (d * 2 ^ s) ∧ s < 64 := by
  obtain ⟨h1, h2, h3⟩ := blen_iff hd
  obtain ⟨h2, h4⟩ := h2 (by omega)
  have hp : 0 < 2 ^ s := Nat.pow_pos (by omega)
  have e1 : 2 ^ Lib.bitLen d * 2 ^ s = B64 := by rw [← Nat.pow_add, show Lib.bitLen d + s = 64 by omega]; rfl
  have e2 : 2 ^ Lib.bitLen d = 2 * 2 ^ (Lib.bitLen d - 1) := by
    obtain ⟨L, hL⟩ : ∃ L, Lib.bitLen d = L + 1 := ⟨Lib.bitLen d - 1, by omega⟩
    rw [hL, Nat.pow_succ, Nat.add_sub_cancel]; omega
  refine ⟨?_, ?_, by omega⟩
  · rw [← e1]; exact Nat.mul_lt_mul_of_pos_right h1 hp
  · rw [← e1, e2, Nat.mul_assoc]
    have := Nat.mul_le_mul_right (2 ^ s) h2
    omega

/-- Both ways of bitsDiv64. -/
theorem bDivA (u lo y : Nat) (w : World) (hn : B64 ≤ 2 * y) (hyB : y < B64) (hu : u < y) (hlo : lo < B64) :
    Calls Tryz.prog 373 #[.int .u64 u, .int .u64 lo, .int .u64 y] w (fun e w' => e = .returned (.tuple #[.int .u64 (((u * B64 + lo) / y : Nat) : Int), .int .u64 (((u * B64 + lo) % y : Nat) : Int)]) ∧ ∃ n, w' = w.drewN n) := by
  rcases Nat.eq_zero_or_pos u with rfl | h0
  · rw [Nat.zero_mul, Nat.zero_add]
    exact bDiv64Low lo y _ _ w rfl rfl hlo (by omega)
  · refine (bDivN u lo y w hn hyB hu h0 hlo (blen_top hyB hn)).mono ?_
    rintro e w' ⟨rfl, hw⟩
    exact ⟨rfl, 0, hw⟩
set_option maxRecDepth 100000 in
theorem bDivB (u lo y : Nat) (w : World) (hn : B64 ≤ 2 * y) (hyB : y < B64) (hu : u < y) (hlo : lo < B64) :
    Calls Tryz.prog 337 #[.int .u64 u, .int .u64 lo, .int .u64 y] w (fun e w' => e = .returned (.tuple #[.int .u64 (((u * B64 + lo) / y : Nat) : Int), .int .u64 (((u * B64 + lo) % y : Nat) : Int)]) ∧ ∃ n, w' = w.drewN n) := by
  have H := Lib.hid (bDivA u lo y w hn hyB hu hlo)
  generalize (u * B64 + lo) / y = q, (u * B64 + lo) % y = r at H ⊢
  clear hn hyB hu hlo
  go_enter Tryz.func337, Tryz.ntmps337
  go_wp2_with (go_at_call 373; (with_reducible refine H.out.mono ?_); rintro e w' ⟨rfl, n, rfl⟩)
  go_ret2
  exact ⟨rfl, n, rfl⟩
theorem xor_top {D : Nat} (hD : D < B64) : bits .xor .u64 IntKind.u64.max (D : Int) = ((B64 - 1 - D : Nat) : Int) := by
  have e : IntKind.u64.max = ((B64 - 1 : Nat) : Int) := by unfold B64; rfl
  rw [e, bits_xor_u64_nat _ _ (by unfold B64; omega) (by unfold B64 at hD; exact hD)]
  congr 1
  refine Nat.eq_of_testBit_eq fun i => ?_
  have e1 : B64 - 1 = 2 ^ 64 - 1 := by unfold B64; rfl
  have e2 : B64 - 1 - D = 2 ^ 64 - (D + 1) := by unfold B64; omega
  rw [e2, Nat.testBit_xor, e1, Nat.testBit_two_pow_sub_one, Nat.testBit_two_pow_sub_succ (by unfold B64 at hD; exact hD)]
  by_cases hi : i < 64
  · simp [hi]
  · simp [hi]
    exact Nat.testBit_lt_two_pow (Nat.lt_of_lt_of_le (show D < 2 ^ 64 from hD) (Nat.pow_le_pow_right (by omega) (by omega)))
/-- The reciprocal of a word whose top bit is set. -/
def recipOf (D : Nat) : Nat := (B64 * B64 - 1) / D - B64
theorem recip_eq {D : Nat} (hD : D < B64) (h0 : 0 < D) : ((B64 - 1 - D) * B64 + (B64 - 1)) / D = recipOf D ∧ recipOf D + B64 = (B64 * B64 - 1) / D := by
  have e : (B64 - 1 - D) * B64 + (B64 - 1) + D * B64 = B64 * B64 - 1 := by
    have h1 : (B64 - 1 - D) * B64 + D * B64 = (B64 - 1) * B64 := by rw [← Nat.add_mul]; congr 1; omega
    have h2 : (B64 - 1) * B64 + B64 = B64 * B64 := by
      have : (B64 - 1 + 1) * B64 = B64 * B64 := by congr 1
      rw [← this, Nat.add_mul, Nat.one_mul]
    have := B64_pos
    omega
  have h3 : (B64 * B64 - 1) / D = ((B64 - 1 - D) * B64 + (B64 - 1)) / D + B64 := by rw [← e, Nat.add_mul_div_left _ _ h0]
  unfold recipOf
  rw [h3]
  exact ⟨(Nat.add_sub_cancel _ _).symm, by rw [Nat.add_sub_cancel]⟩
set_option maxRecDepth 100000 in
theorem gRecipN (d s D : Nat) (w : World) (h0 : 0 < d) (hs : s = 64 - Lib.bitLen d) (hD : D = d * 2 ^ s) (hd : d < B64) :
    Calls Tryz.prog 338 #[.int .u64 d] w (fun e w' => e = .returned (.int .u64 (recipOf D : Int)) ∧ ∃ n, w' = w.drewN n) := by
  have HZ := Lib.hid (fun W => gNlz d hd W)
  rw [← hs] at HZ
  obtain ⟨k1, k2, k3⟩ := scale_up h0 hd hs
  rw [← hD] at k1 k2
  have H := Lib.hid (fun W => bDivB (B64 - 1 - D) (B64 - 1) D W k2 k1 (by omega) (by omega))
  rw [(recip_eq k1 (by omega)).1, show ((B64 - 1 : Nat) : Int) = 18446744073709551615 by unfold B64; rfl] at H
  have hx := xor_top k1
  obtain ⟨u, hu⟩ : ∃ u, u = B64 - 1 - D := ⟨_, rfl⟩
  rw [← hu] at H hx
  have he : IntKind.u64.wrap ((d : Int) * 2 ^ s) = (D : Int) := by
    have e1 : (d : Int) * 2 ^ s = (D : Int) := by rw [hD]; simp
    rw [e1, IntKind.wrap_u64]; unfold B64 at k1; omega
  generalize recipOf D = m at H ⊢
  generalize ((B64 - 1 - D) * B64 + (B64 - 1)) % D = r at H
  have i2 : (s : Int) ≤ 63 := by omega
  clear hs hD hd h0 k1 k2 k3 hu
  go_enter Tryz.func338, Tryz.ntmps338
  go_wp2_with (first | (go_at_call 312; (with_reducible refine (HZ.out _).mono ?_); rintro e w' ⟨rfl, hw⟩; obtain rfl := hw.symm) | (go_at_call 337; (with_reducible refine (H.out _).mono ?_); rintro e w' ⟨rfl, n, rfl⟩))
  go_ret
  exact ⟨rfl, n, rfl⟩

/-- Two words moved up. -/
theorem ww_shiftN {x1 x0 d s D : Nat} (hs1 : 1 ≤ s) (hs2 : s < 64) (hD : D = d * 2 ^ s) (hDB : D < B64) (h1 : x1 < d) (h0 : x0 < B64) :
    bits .or .u64 (IntKind.u64.wrap ((x1 : Int) * 2 ^ s)) ((x0 : Int) / 2 ^ (64 - s)) = ((x1 * 2 ^ s + x0 / 2 ^ (64 - s) : Nat) : Int) ∧ IntKind.u64.wrap ((x0 : Int) * 2 ^ s) = ((x0 * 2 ^ s % B64 : Nat) : Int) ∧
    (x1 * 2 ^ s + x0 / 2 ^ (64 - s)) * B64 + x0 * 2 ^ s % B64 = (x1 * B64 + x0) * 2 ^ s ∧ x1 * 2 ^ s + x0 / 2 ^ (64 - s) < D ∧ x0 * 2 ^ s % B64 < B64 := by
  have hkk : 2 ^ s * 2 ^ (64 - s) = B64 := by rw [← Nat.pow_add, show s + (64 - s) = 64 by omega]; rfl
  have hp : 0 < 2 ^ s := Nat.pow_pos (by omega)
  have hp' : 0 < 2 ^ (64 - s) := Nat.pow_pos (by omega)
  have hq : x0 / 2 ^ (64 - s) < 2 ^ s := (Nat.div_lt_iff_lt_mul hp').2 (by rw [hkk]; exact h0)
  have hlt : x1 * 2 ^ s + x0 / 2 ^ (64 - s) < D := by
    have : (x1 + 1) * 2 ^ s ≤ d * 2 ^ s := Nat.mul_le_mul_right _ h1
    rw [Nat.add_mul, Nat.one_mul] at this
    omega
  have hx0 : x0 * 2 ^ s % B64 = x0 % 2 ^ (64 - s) * 2 ^ s := by rw [← hkk, Nat.mul_comm (2 ^ s), Nat.mul_mod_mul_right]
  have hval : (x1 * 2 ^ s + x0 / 2 ^ (64 - s)) * B64 + x0 * 2 ^ s % B64 = (x1 * B64 + x0) * 2 ^ s := by
    have h := Nat.div_add_mod x0 (2 ^ (64 - s))
    have e1 : x0 / 2 ^ (64 - s) * B64 = 2 ^ (64 - s) * (x0 / 2 ^ (64 - s)) * 2 ^ s := by rw [← hkk, Nat.mul_comm (2 ^ s), ← Nat.mul_assoc, Nat.mul_comm (2 ^ (64 - s))]
    have e2 : x1 * 2 ^ s * B64 = x1 * B64 * 2 ^ s := Nat.mul_right_comm _ _ _
    rw [hx0, Nat.add_mul, e1, Nat.add_assoc, ← Nat.add_mul, h, Nat.add_mul (x1 * B64), e2]
  refine ⟨?_, ?_, hval, hlt, Nat.mod_lt _ B64_pos⟩
  · have hle : x1 * 2 ^ s < 18446744073709551616 := by
      unfold B64 at hDB
      exact Nat.lt_of_le_of_lt (Nat.le_add_right _ _) (Nat.lt_trans hlt hDB)
    have hlt2 : x1 * 2 ^ s + x0 / 2 ^ (64 - s) < 18446744073709551616 := by unfold B64 at hDB; exact Nat.lt_trans hlt hDB
    have e1 : (x1 : Int) * 2 ^ s = ((x1 * 2 ^ s : Nat) : Int) := by simp
    have e2 : (x0 : Int) / 2 ^ (64 - s) = ((x0 / 2 ^ (64 - s) : Nat) : Int) := by simp
    have e3 : IntKind.u64.wrap ((x1 * 2 ^ s : Nat) : Int) = ((x1 * 2 ^ s : Nat) : Int) := by
      rw [IntKind.wrap_u64]
      generalize x1 * 2 ^ s = t at hle ⊢
      omega
    rw [e1, e2, e3, bits_or_u64_nat _ _ hle (by unfold B64 at h0; exact Nat.lt_of_le_of_lt (Nat.div_le_self _ _) h0)]
    congr 1
    have := Nat.two_pow_add_eq_or_of_lt (i := s) (b := x0 / 2 ^ (64 - s)) hq x1
    rw [Nat.mul_comm x1]
    exact this.symm
  · have e1 : (x0 : Int) * 2 ^ s = ((x0 * 2 ^ s : Nat) : Int) := by simp
    rw [e1, IntKind.wrap_u64]
    unfold B64
    generalize x0 * 2 ^ s = t
    omega

set_option maxRecDepth 100000 in
set_option maxHeartbeats 2000000 in
theorem gDivWWs (x1 x0 d0 s d m : Nat) (w : World) (hz : 0 < d0) (hd0B : d0 < B64) (hs : s = 64 - Lib.bitLen d0) (hs1 : 1 ≤ s) (hD : d = d0 * 2 ^ s) (hx1 : x1 < d0) (hx0 : x0 < B64) (hm : m + B64 = (B64 * B64 - 1) / d) :
    Calls Tryz.prog 339 #[.int .u64 x1, .int .u64 x0, .int .u64 d0, .int .u64 m] w (fun e w' => e = .returned (.tuple #[.int .u64 (((x1 * B64 + x0) / d0 : Nat) : Int), .int .u64 (((x1 * B64 + x0) % d0 : Nat) : Int)]) ∧ w' = w) := by
  have HZ := Lib.hid (fun W => gNlz d0 hd0B W)
  rw [← hs] at HZ
  obtain ⟨hdB, hn, hs2⟩ := scale_up hz hd0B hs
  rw [← hD] at hdB hn
  obtain ⟨e1, e2, e3, h1, h0⟩ := ww_shiftN hs1 hs2 hD hdB hx1 hx0
  obtain ⟨X1, hX1⟩ : ∃ X1, X1 = x1 * 2 ^ s + x0 / 2 ^ (64 - s) := ⟨_, rfl⟩
  obtain ⟨X0, hX0⟩ : ∃ X0, X0 = x0 * 2 ^ s % B64 := ⟨_, rfl⟩
  rw [← hX1] at e1 e3 h1
  rw [← hX0] at e2 e3 h0
  have hd0 : 0 < d := by unfold B64 at hn; omega
  have edd : IntKind.u64.wrap ((d0 : Int) * 2 ^ s) = (d : Int) := by
    have e1 : (d0 : Int) * 2 ^ s = (d : Int) := by rw [hD]; simp
    rw [e1, IntKind.wrap_u64]; unfold B64 at hdB; omega
  obtain ⟨q, r, w1, w2, w3, hqB, hQB, hc⟩ := ww_plain hd0 hdB hn hm h1 h0
  obtain ⟨Q, hQ⟩ : ∃ Q, Q = (X1 * B64 + X0) / d := ⟨_, rfl⟩
  obtain ⟨R, hR⟩ : ∃ R, R = (X1 * B64 + X0) % d := ⟨_, rfl⟩
  rw [← hQ, ← hR] at hc
  rw [← hQ] at hQB
  have hcs := ww_cases hd0 hdB hqB hQB hc
  have HG := Lib.hid (And.intro hQ hR)
  have HM1 := Lib.hid (fun W => bMul m X1 (show m < B64 by
    have : (B64 * B64 - 1) / d < 2 * B64 := (Nat.div_lt_iff_lt_mul hd0).2 (by have : B64 * B64 ≤ B64 * (2 * d) := Nat.mul_le_mul_left _ hn; rw [show 2 * B64 * d = B64 * (2 * d) by rw [Nat.mul_comm 2, Nat.mul_assoc]]; have := Nat.mul_pos B64_pos B64_pos; omega)
    omega) (Nat.lt_trans h1 hdB) W)
  obtain ⟨t1, ht1⟩ : ∃ t, t = m * X1 / B64 := ⟨_, rfl⟩
  obtain ⟨t0, ht0⟩ : ∃ t, t = m * X1 % B64 := ⟨_, rfl⟩
  rw [← ht1, ← ht0] at HM1 w1
  have hx1B : X1 < B64 := Nat.lt_trans h1 hdB
  have ht0B : t0 < B64 := by rw [ht0]; exact Nat.mod_lt _ B64_pos
  have HA1 := Lib.hid (fun W => bitsAdd t0 X0 0 (by omega) W)
  rw [show ((0 : Nat) : Int) = 0 from rfl] at HA1
  obtain ⟨a0, ha0⟩ : ∃ t, t = (t0 + X0 + 0) % B64 := ⟨_, rfl⟩
  obtain ⟨c, hcc⟩ : ∃ t, t = (t0 + X0 + 0) / B64 := ⟨_, rfl⟩
  rw [← ha0, ← hcc] at HA1
  rw [← hcc] at w1
  have hc1 : c ≤ 1 := by rw [hcc]; unfold B64 at *; omega
  have HA2 := Lib.hid (fun W => bitsAdd t1 X1 c hc1 W)
  obtain ⟨a1, ha1⟩ : ∃ t, t = (t1 + X1 + c) / B64 := ⟨_, rfl⟩
  rw [w1, ← ha1] at HA2
  have HM2 := Lib.hid (fun W => bMul d q hdB hqB W)
  obtain ⟨p1, hp1⟩ : ∃ t, t = d * q / B64 := ⟨_, rfl⟩
  obtain ⟨p0, hp0⟩ : ∃ t, t = d * q % B64 := ⟨_, rfl⟩
  rw [← hp1, ← hp0] at HM2
  rw [← hp0] at w2
  rw [← hp1, ← hp0] at w3
  have HS1 := Lib.hid (fun W => bitsSub X0 p0 0 (by omega) W)
  rw [show ((0 : Nat) : Int) = 0 from rfl] at HS1
  obtain ⟨b, hb⟩ : ∃ t : Nat, t = (if X0 < p0 + 0 then 1 else 0) := ⟨_, rfl⟩
  rw [w2, ← hb] at HS1
  rw [← hb] at w3
  have hb1 : b ≤ 1 := by rw [hb]; split <;> omega
  have HS2 := Lib.hid (fun W => bitsSub X1 p1 b hb1 W)
  obtain ⟨b2, hb2⟩ : ∃ t : Nat, t = (if X1 < p1 + b then 1 else 0) := ⟨_, rfl⟩
  rw [w3, ← hb2] at HS2
  obtain ⟨rl, hrl⟩ : ∃ t, t = r % B64 := ⟨_, rfl⟩
  rw [← hrl] at HS1 hcs
  obtain ⟨rh, hrh⟩ : ∃ t, t = r / B64 := ⟨_, rfl⟩
  rw [← hrh] at HS2 hcs
  have hp : 0 < 2 ^ s := Nat.pow_pos (by omega)
  have hQ2 : Q = (x1 * B64 + x0) / d0 := by
    have := (scaled (x := x1 * B64 + x0) (y := d0) (k := 2 ^ s) hp).1
    rw [← this, hQ, e3, hD]
  have hR2 : R / 2 ^ s = (x1 * B64 + x0) % d0 := by
    have := (scaled (x := x1 * B64 + x0) (y := d0) (k := 2 ^ s) hp).2
    rw [← this, hR, e3, hD]
  obtain ⟨R', hR'⟩ : ∃ R', R' = R / 2 ^ s := ⟨_, rfl⟩
  rw [← hR'] at hR2
  rw [← hQ2, ← hR2]
  have hs4 : (R : Int) / 2 ^ s = (R' : Int) := by rw [hR']; simp
  have HS5 := Lib.hid (show (R : Int) = (rl : Int) → (rl : Int) / 2 ^ s = (R' : Int) from fun e => by rw [← e]; exact hs4)
  have i1 : (1 : Int) ≤ (s : Int) := by omega
  have i2 : (s : Int) ≤ 63 := by omega
  clear hQ2 hR2 hR' e3 hX1 hX0 hx0 hp hs hs1 hs2 hz hd0B hx1
  clear hd0 hdB hn hm h1 h0 w1 w2 w3 hqB hQB hc hQ hR ht1 ht0 hx1B ht0B ha0 hcc hc1 ha1 hp1 hp0 hb hb1 hb2 hrl hrh
  clear hD HG
  rcases hcs with ⟨g0, g1, g2, g3⟩ | ⟨g0, g1, g2, g3⟩ | ⟨g0, g1, g2, g3⟩ | ⟨g0, r', q', g1, g2, g3, g4, g5⟩
  all_goals (
    subst g0
    go_enter Tryz.func339, Tryz.ntmps339
    go_upto_region 7 with (go_at_call 312; (with_reducible refine (HZ.out _).mono ?_); rintro e w' ⟨rfl, hw⟩; obtain rfl := hw.symm)
    go_wp2_with (first | (go_at_call 312; (with_reducible refine (HZ.out _).mono ?_); rintro e w' ⟨rfl, rfl⟩) | (go_at_call 239; (with_reducible refine (HM1.out _).mono ?_); rintro e w' ⟨rfl, rfl⟩) | (go_at_call 239; (with_reducible refine (HM2.out _).mono ?_); rintro e w' ⟨rfl, rfl⟩) | (go_at_call 273; (with_reducible refine (HA1.out _).mono ?_); rintro e w' ⟨rfl, rfl⟩) | (go_at_call 273; (with_reducible refine (HA2.out _).mono ?_); rintro e w' ⟨rfl, rfl⟩) | (go_at_call 275; (with_reducible refine (HS1.out _).mono ?_); rintro e w' ⟨rfl, rfl⟩) | (go_at_call 275; (with_reducible refine (HS2.out _).mono ?_); rintro e w' ⟨rfl, rfl⟩)))
  all_goals go_ret2
  all_goals first | exact ⟨rfl, rfl⟩ | exact ⟨by rw [g2, g3]; rfl, rfl⟩ | exact ⟨by rw [g2, ← HS5.out g3]; rfl, rfl⟩

/-- divWW by any word, the reciprocal given. -/
theorem gDivWWA (x1 x0 d : Nat) (w : World) (hz : 0 < d) (hd : d < B64) (hx1 : x1 < d) (hx0 : x0 < B64) :
    Calls Tryz.prog 339 #[.int .u64 x1, .int .u64 x0, .int .u64 d, .int .u64 (recipOf (d * 2 ^ (64 - Lib.bitLen d)) : Nat)] w (fun e w' => e = .returned (.tuple #[.int .u64 (((x1 * B64 + x0) / d : Nat) : Int), .int .u64 (((x1 * B64 + x0) % d : Nat) : Int)]) ∧ w' = w) := by
  obtain ⟨hdB, hn, hs2⟩ := scale_up hz hd rfl
  have hm := (recip_eq hdB (by unfold B64 at hn; omega)).2
  rcases Nat.eq_zero_or_pos (64 - Lib.bitLen d) with h0 | h0
  · rw [h0, Nat.pow_zero, Nat.mul_one] at hdB hn hm ⊢
    exact gDivWWn x1 x0 d _ w hz hd hn hm hx1 hx0 (blen_top hd hn)
  · exact gDivWWs x1 x0 d _ _ _ w hz hd rfl h0 rfl hx1 hx0 hm
end Go.Proofs.YtfafiahefjimdaaGreatDoor

namespace Go.Proofs.YtfafiahefjimdaaGreatDoor
open Go Go.RowKit

set_option maxRecDepth 100000 in
set_option maxHeartbeats 2000000 in
/-- divWVW by any word, of two words or more, into another block or in place. -/
theorem vDivN (dv : Nat) (hdv0 : 0 < dv) (hdvB : dv < B64) (g c bx ox cx n : Nat) (ws xs : List Nat) (w : World) (hb : WB w g ws) (hl : n ≤ ws.length) (hxl : xs.length = n) (hn2 : 2 ≤ n) (hn : n ≤ 100000) (_hc : n ≤ c) (_hcx : n ≤ cx) (hsx : Src w g 0 bx ox xs) :
    Calls Tryz.prog 311 #[.slice (some ⟨g, 0, none⟩) n c, .int .u64 0, .slice (some ⟨bx, ox, none⟩) n cx, .int .u64 dv] w
      (fun e w' => ∃ ds : List Nat, e = .returned (.int .u64 ((natOf xs % dv : Nat) : Int)) ∧ ds.length = n ∧ (∀ d ∈ ds, d < B64) ∧ natOf ds = natOf xs / dv ∧ WB w' g (over ws 0 ds) ∧ Only g w w') := by
  have HX := Lib.hid hsx; have HXB := Lib.hid hsx.1; have HB0 := Lib.hid hb; have HXL := Lib.hid hxl
  have e1 : ((n : Int) == 1) = false := by simp; omega
  have HRW := Lib.hid (fun (x1 x0 : Nat) (h1 : x1 < dv) (h0 : x0 < B64) (W : World) => gDivWWA x1 x0 dv W hdv0 hdvB h1 h0)
  have HRC := Lib.hid (fun W : World => gRecipN dv _ _ W hdv0 rfl rfl hdvB)
  obtain ⟨rec, hrec⟩ : ∃ rec, rec = recipOf (dv * 2 ^ (64 - Lib.bitLen dv)) := ⟨_, rfl⟩
  rw [← hrec] at HRW HRC
  clear hsx hb hrec
  go_enter Tryz.func311, Tryz.ntmps311
  go_wp2_with (go_at_call 338; (with_reducible refine (HRC.out _).mono ?_); rintro e w' ⟨rfl, nr, hw⟩; have HWN := Lib.hid hw; clear hw)
  have HB1 := Lib.hid (show WB w' g ws by rw [HWN.out]; exact HB0.out.drewN _)
  have HX1 := Lib.hid (show Src w' g 0 bx ox xs by rw [HWN.out]; exact HX.out)
  have HO1 := Lib.hid (show ∀ W, Only g w' W → Only g w W by intro W h; rw [HWN.out] at h; exact ⟨h.os, h.tape, h.output, h.size, h.block⟩)
  go_loopw [8, 12] (fun v i wr => ∃ (k r : Nat) (ds : List Nat), k ≤ n ∧ ((∃ m, k = m + 1 ∧ i = .int .i64 (m : Int)) ∨ (k = 0 ∧ i = .int .i64 (-1))) ∧ v = .int .u64 (r : Int) ∧ r = natOf (xs.drop k) % dv ∧ ds.length + k = n ∧ natOf ds = natOf (xs.drop k) / dv ∧ (∀ d ∈ ds, d < B64) ∧ WB wr g (over ws k ds) ∧ Only g w' wr) (fun _ i _ => match i with | .int _ z => (z + 1).toNat | _ => 0)
  case atStart =>
    refine ⟨n, 0, [], Nat.le_refl _, Or.inl ⟨n - 1, by omega, by congr 1; omega⟩, rfl, ?_, by simp, ?_, (fun d hd => by cases hd), by rw [over_nil]; exact HB1.out, Only.refl _ _⟩
    · rw [List.drop_of_length_le (by rw [HXL.out]; exact Nat.le_refl _)]; simp [natOf]
    · rw [List.drop_of_length_le (by rw [HXL.out]; exact Nat.le_refl _)]; simp [natOf]
  case round =>
    obtain ⟨k, r, ds, hk, hi, rfl, hr, hdl, hdv, hdb, hwb, ho⟩ := hrel
    have HR := Lib.hid hr; have HDL := Lib.hid hdl; have HDV := Lib.hid hdv; have HDB := Lib.hid hdb; have HWB := Lib.hid hwb; have HO := Lib.hid ho
    clear hr hdl hdv hdb hwb ho
    rcases hi with ⟨m, hkm, rfl⟩ | ⟨hk0, rfl⟩
    · have HKM := Lib.hid hkm
      have hml : m < xs.length := by rw [HXL.out]; omega
      obtain ⟨x, hxm⟩ : ∃ x, x = xs[m] := ⟨_, rfl⟩
      have cx : wr.cell? ⟨bx, ox + m, none⟩ = some (.int .u64 (x : Int)) := by rw [hxm]; exact HX1.out.readUp HB1.out HO.out HWB.out (by have := HDL.out; omega) m (by omega) hml
      have hxB : x < B64 := by rw [hxm]; exact HXB.out _ (List.getElem_mem hml)
      have HND := Lib.hid (show natOf (xs.drop m) = x + B64 * natOf (xs.drop k) by rw [natOf_drop hml, hxm, hkm])
      have hrB : r < dv := by rw [HR.out]; exact Nat.mod_lt _ hdv0
      have HD := Lib.hid (fun W => HRW.out r x hrB hxB W)
      have hds := div_step (N := natOf (xs.drop k)) (d := dv) (x := x) hdv0
      rw [← HR.out, ← HND.out, ← HDV.out] at hds
      obtain ⟨q, hq⟩ : ∃ q, q = (r * B64 + x) / dv := ⟨_, rfl⟩
      obtain ⟨r2, hr2⟩ : ∃ r2, r2 = (r * B64 + x) % dv := ⟨_, rfl⟩
      have hqB : q < B64 := by
        rw [hq]
        refine (Nat.div_lt_iff_lt_mul hdv0).2 ?_
        have : (r + 1) * B64 ≤ dv * B64 := Nat.mul_le_mul_right _ hrB
        rw [Nat.add_mul, Nat.one_mul] at this
        rw [Nat.mul_comm B64]; omega
      rw [← hq, ← hr2] at HD hds
      have HQB := Lib.hid hqB; have HDS := Lib.hid hds
      have lx := cell_lt cx
      obtain ⟨old, hold⟩ : ∃ old, wr.cell? ⟨g, m, none⟩ = some old := ⟨_, HWB.out.cell m _ (List.getElem?_eq_getElem (by rw [over_length (by have := HDL.out; omega)]; omega))⟩
      have hfz := HWB.out.frozen m
      have lg := HWB.out.lt
      have b1 : (m : Int) < (n : Int) := by omega
      have b0 : (0 : Int) ≤ (m : Int) := by omega
      clear hxm hxB hrB hq hr2 hqB hds hkm
      go_wp2_with (go_at_call 339; (with_reducible refine (HD.out _).mono ?_); rintro e w2 ⟨rfl, hw⟩; subst hw)
      go_roundw
      case rel =>
        have hkm := HKM.out
        refine ⟨m, r2, q :: ds, by omega, ?_, rfl, HDS.out.2.symm, by have := HDL.out; simp; omega, ?_, ?_, ?_, HO.out.set_ _ _⟩
        · rcases Nat.eq_zero_or_pos m with h0 | h0
          · exact Or.inr ⟨h0, by subst h0; rfl⟩
          · exact Or.inl ⟨m - 1, by omega, by congr 1; omega⟩
        · show q + B64 * natOf ds = _
          rw [HDS.out.1]
        · intro d hd
          rcases List.mem_cons.1 hd with rfl | hd
          · exact HQB.out
          · exact HDB.out d hd
        · have h3 := HWB.out.set_ m q HQB.out
          rwa [hkm, over_cons q (by have := HDL.out; omega)] at h3
      case measure => first | (simp; done) | (simp; omega)
    · subst hk0
      go_wp2
      go_ret
      exact ⟨ds, by rw [HR.out]; rfl, by have := HDL.out; omega, HDB.out, HDV.out, HWB.out, HO1.out _ HO.out⟩


theorem vDivNA (dv : Nat) (hdv0 : 0 < dv) (hdvB : dv < B64) (g c bx ox cx n : Nat) (ws xs : List Nat) (w : World) (hb : WB w g ws) (hl : n ≤ ws.length) (hxl : xs.length = n) (hn1 : 1 ≤ n) (hn : n ≤ 100000) (hc : n ≤ c) (hcx : n ≤ cx) (hsx : Src w g 0 bx ox xs) :
    Calls Tryz.prog 311 #[.slice (some ⟨g, 0, none⟩) n c, .int .u64 0, .slice (some ⟨bx, ox, none⟩) n cx, .int .u64 dv] w
      (fun e w' => ∃ ds : List Nat, e = .returned (.int .u64 ((natOf xs % dv : Nat) : Int)) ∧ ds.length = n ∧ (∀ d ∈ ds, d < B64) ∧ natOf ds = natOf xs / dv ∧ WB w' g (over ws 0 ds) ∧ Only g w w') := by
  rcases (by omega : n = 1 ∨ 2 ≤ n) with rfl | h2
  · obtain ⟨x, rfl⟩ := List.length_eq_one_iff.1 hxl
    have hcell := hsx.2.1 0 (by simp)
    have hxb := hsx.1 x (by simp)
    rw [Nat.add_zero] at hcell
    rw [natOf_one]
    refine (vDivLow g c bx ox cx x dv _ _ ws w hb hl hcell rfl rfl hxb hdv0).mono ?_
    rintro e w' ⟨rfl, k, rfl⟩
    have hq : x / dv < B64 := Nat.lt_of_le_of_lt (Nat.div_le_self _ _) hxb
    have hs := (hb.drewN k).set_ 0 _ hq
    rw [show ws.set 0 (x / dv) = over ws 0 [x / dv] by have := over_snoc (ws := ws) (o := 0) (ds := []) (x / dv) (by simp; omega); rwa [over_nil] at this] at hs
    exact ⟨[x / dv], rfl, rfl, by simpa using hq, natOf_one _, hs, ((Only.refl g w).drewN k).set_ 0 _⟩
  · exact vDivN dv hdv0 hdvB g c bx ox cx n ws xs w hb hl hxl h2 hn hc hcx hsx


/-- A quotient in a receiver's room, and a word. -/
def RetQWN (gz N r : Nat) (w : World) (e : Ending) (w' : World) : Prop :=
  ∃ A c g ws, e = .returned (.tuple #[.slice A ws.length c, .int .u64 (r : Int)]) ∧ NatV w' A c g ws ∧ Norm ws ∧ natOf ws = N ∧ Only gz w w' ∧ (g = gz ∨ w.heap.size ≤ g)
set_option maxRecDepth 100000 in
set_option maxHeartbeats 1000000 in
/-- divW by any word but 1. -/
theorem gDivWN (dv : Nat) (hdv0 : 0 < dv) (hdvB : dv < B64) (hdv1 : dv ≠ 1) (A : Option Addr) (n0 cz gz : Nat) (zs : List Nat) (B : Option Addr) (cb : Nat) (xs : List Nat) (m : Nat) (w : World) (hz : NatV w A cz gz zs) (hx : Opd w gz cz B cb xs) (hm : xs.length = m) (hmx : m ≤ 100000) :
    Calls Tryz.prog 281 #[.slice A n0 cz, .slice B m cb, .int .u64 dv] w (RetQWN gz (natOf xs / dv) (natOf xs % dv) w) := by
  have d0 : ((dv : Int) == 0) = false := by simp; omega
  have d1 : ((dv : Int) == 1) = false := by simp; omega
  rcases Nat.eq_zero_or_pos m with h0 | h1
  · subst h0
    have hxs : xs = [] := List.eq_nil_of_length_eq_zero hm
    subst hxs
    have HV := Lib.hid hz.room
    have hcz := hz.room.le
    rcases hz with ⟨rfl, rfl, _⟩ | ⟨rfl, hc, _⟩
    · clear hx hm
      go_enter Tryz.func281, Tryz.ntmps281
      go_wp2
      go_ret2
      exact ⟨_, _, gz, [], by simp [natOf], HV.out, norm_nil, by simp [natOf], Only.refl _ _, Or.inl rfl⟩
    · clear hx hm
      go_enter Tryz.func281, Tryz.ntmps281
      go_wp2
      go_ret2
      exact ⟨_, _, gz, [], by simp [natOf], HV.out, norm_nil, by simp [natOf], Only.refl _ _, Or.inl rfl⟩
  · have hne : xs ≠ [] := by intro e; subst e; simp at hm; omega
    have H := Lib.hid (gMake A n0 cz gz zs m w hz h1 (by omega))
    have HX := Lib.hid hx
    have hcb : m ≤ cb := by have := hx.2.1; omega
    obtain ⟨bx, ox, hB, _⟩ := hx.2.2 hne
    subst hB
    have HL0 := Lib.hid hm; have HNE := Lib.hid hne
    have e0 : ((m : Int) == 0) = false := by simp; omega
    clear hx hm hne hz
    obtain ⟨q, hq⟩ : ∃ q, q = natOf xs / dv := ⟨_, rfl⟩
    obtain ⟨r, hr⟩ : ∃ r, r = natOf xs % dv := ⟨_, rfl⟩
    rw [← hq, ← hr]
    have HQ := Lib.hid hq; have HR := Lib.hid hr
    clear hq hr
    go_enter Tryz.func281, Tryz.ntmps281
    go_wp2_with (fail)
    go_at_call 218
    refine H.out.mono ?_
    rintro e w1 ⟨g, c', full, rfl, hc, hb, hl, hmd⟩
    obtain ⟨bx', ox', hA, hsx⟩ := HX.out.src HNE.out hmd
    injection hA with hA; injection hA with t1 t2 t3; subst t1; subst t2; clear t3
    have HC := Lib.hid (vDivNA dv hdv0 hdvB g c' bx ox cb m full xs w1 hb (by omega) HL0.out h1 hmx hc.1 hcb hsx)
    rw [← HR.out, ← HQ.out] at HC
    have HL := Lib.hid hl; have HM := Lib.hid hmd; have HCC := Lib.hid hc
    clear hb hl hmd hc hsx
    go_wp2_with (fail)
    go_at_call 311
    refine HC.out.mono ?_
    rintro e w2 ⟨ds, rfl, hdl, hdb, hdv, hwb, ho⟩
    have HW := Lib.hid hwb; have HO := Lib.hid ho; have HDV := Lib.hid hdv; have HDL := Lib.hid hdl
    have HN := Lib.hid (natNorm g 0 c' ds m w2 hdl (by omega) HCC.out.1 (wb_cells hwb (by rw [hdl]; have := HL.out; have := HCC.out.1; omega)))
    clear hwb ho hdv hdl hdb
    go_wp2_with (fail)
    go_at_call 221
    refine HN.out.mono ?_
    rintro e w3 ⟨es, rfl, rfl, he, hN2, hve⟩
    have HEN := Lib.hid (norm_end (N := q) HM.out HO.out HW.out HL.out ⟨by have := HCC.out.1; omega, HCC.out.2⟩ (by rw [HDL.out]; have := HCC.out.1; omega) he hN2 hve HDV.out)
    clear he hN2 hve
    go_wp2
    go_ret2
    obtain ⟨A2, c2, g2, ws2, he2, hv2, hn2, hN3, ho2, hg2⟩ := HEN.out
    injection he2 with he2; injection he2 with h1 h2 h3
    subst h1; subst h3
    exact ⟨some ⟨g, 0, none⟩, c', g2, ws2, by rw [← h2]; rfl, hv2, hn2, hN3, ho2, hg2⟩

end Go.Proofs.YtfafiahefjimdaaGreatDoor
