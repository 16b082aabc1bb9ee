/-
  Decimal digits of a natural number as a list of bytes: plain lemmas, of no program.
  What nat.itoa calls: maxPow, bitLen, divisors (none), math.Log2 of 10.
  convertWords at base 10: the digits of a number of few words, written into a row of bytes.
  nat.itoa at base 10: a number of few words in digits.
  Numbers as texts: big.Int's Text and String, cosmosmath's String.
-/
import Derived.WalkKit
import Derived.Lib.Hide
import Derived.Test.YtfafiahefjimdaaGreatDoorIA
import Derived.Test.YtfafiahefjimdaaGreatDoorGY
import Derived.Laws.FloatArith
import Derived.Test.YtfafiahefjimdaaGreatDoorGM
import Derived.Test.YtfafiahefjimdaaGreatDoorGN
import Derived.Laws.BytesArg
import Derived.Test.YtfafiahefjimdaaGreatDoorGB
import Derived.Deep.RegionLaw
import Derived.Lib.SlBytesConst
namespace Go.Proofs.YtfafiahefjimdaaGreatDoor

/-- The digit at place j from the right, as a byte. -/
def dgt (n j : Nat) : UInt8 := UInt8.ofNat (48 + n / 10 ^ j % 10)
/-- The k lowest digits, the greatest first. -/
def dgN : Nat → Nat → List UInt8
  | 0, _ => []
  | k + 1, n => dgt n k :: dgN k n
theorem dgN_length (k n : Nat) : (dgN k n).length = k := by
  induction k with
  | zero => rfl
  | succ k ih => simp [dgN, ih]
theorem dgt_div (n j : Nat) : dgt (n / 10) j = dgt n (j + 1) := by
  unfold dgt
  rw [Nat.div_div_eq_div_mul, Nat.pow_succ, Nat.mul_comm 10]
theorem dgN_succ (k n : Nat) : dgN (k + 1) n = dgN k (n / 10) ++ [UInt8.ofNat (48 + n % 10)] := by
  induction k with
  | zero => simp [dgN, dgt]
  | succ k ih => rw [dgN, ih, dgN, dgt_div]; rfl
theorem dgt_zero {n j : Nat} (h : n < 10 ^ j) : dgt n j = 48 := by
  unfold dgt
  rw [Nat.div_eq_of_lt h]; rfl
/-- How many digits a number has. -/
def ndig (n : Nat) : Nat := if n < 10 then 1 else ndig (n / 10) + 1
termination_by n
decreasing_by omega
theorem ndig_pos (n : Nat) : 1 ≤ ndig n := by rw [ndig]; split <;> omega
theorem lt_ndig (n : Nat) : n < 10 ^ ndig n := by
  induction n using Nat.strongRecOn with
  | _ n ih =>
    rw [ndig]
    split
    · omega
    · have := ih (n / 10) (by omega)
      rw [Nat.pow_succ]; omega
theorem ndig_le (n : Nat) : n = 0 ∨ 10 ^ (ndig n - 1) ≤ n := by
  induction n using Nat.strongRecOn with
  | _ n ih =>
    rw [ndig]
    split
    · rcases Nat.eq_zero_or_pos n with h | h
      · exact Or.inl h
      · exact Or.inr (by simp; omega)
    · right
      rcases ih (n / 10) (by omega) with h | h
      · omega
      · have hp := ndig_pos (n / 10)
        have e : 10 ^ ndig (n / 10) = 10 ^ (ndig (n / 10) - 1) * 10 := by rw [← Nat.pow_succ]; congr 1; omega
        rw [Nat.add_sub_cancel, e]
        omega
theorem ndig_of {n k : Nat} (h1 : n < 10 ^ k) (h2 : 10 ^ (k - 1) ≤ n) (hk : 1 ≤ k) : ndig n = k := by
  have h3 := lt_ndig n
  have hp := ndig_pos n
  have h0 : 0 < 10 ^ (k - 1) := Nat.pow_pos (by omega)
  rcases ndig_le n with h | h4
  · omega
  · rcases Nat.lt_trichotomy (ndig n) k with h | h | h
    · have : 10 ^ ndig n ≤ 10 ^ (k - 1) := Nat.pow_le_pow_right (by omega) (by omega)
      omega
    · exact h
    · have : 10 ^ k ≤ 10 ^ (ndig n - 1) := Nat.pow_le_pow_right (by omega) (by omega)
      omega
/-- A number in digits. -/
def decL (n : Nat) : List UInt8 := dgN (ndig n) n
theorem decL_small {n : Nat} (h : n < 10) : decL n = [UInt8.ofNat (48 + n)] := by
  unfold decL
  rw [ndig, if_pos h]
  simp [dgN, dgt, Nat.mod_eq_of_lt h]
theorem decL_step {n : Nat} (h : 10 ≤ n) : decL n = decL (n / 10) ++ [UInt8.ofNat (48 + n % 10)] := by
  unfold decL
  rw [ndig, if_neg (by omega), dgN_succ]
theorem decL_length (n : Nat) : (decL n).length = ndig n := dgN_length _ _
theorem ndig_le_of {n k : Nat} (h : n < 10 ^ k) (hk : 1 ≤ k) : ndig n ≤ k := by
  rcases ndig_le n with h0 | h0
  · subst h0; rw [ndig, if_pos (by omega)]; exact hk
  · rcases Nat.lt_or_ge k (ndig n) with h1 | h1
    · have : 10 ^ k ≤ 10 ^ (ndig n - 1) := Nat.pow_le_pow_right (by omega) (by omega)
      omega
    · exact h1
/-- A digit at the head that is not a nought: the digits are the number's. -/
theorem decL_of {n k : Nat} (h : n < 10 ^ (k + 1)) (h0 : dgt n k ≠ 48) : dgN (k + 1) n = decL n := by
  unfold decL
  rw [ndig_of h ?_ (by omega)]
  rw [Nat.add_sub_cancel]
  rcases Nat.lt_or_ge n (10 ^ k) with h1 | h1
  · exact absurd (dgt_zero h1) h0
  · exact h1
theorem dgt_eq_zero {n k : Nat} (h : n < 10 ^ (k + 1)) (h0 : dgt n k = 48) : n < 10 ^ k := by
  unfold dgt at h0
  have hlt : n / 10 ^ k < 10 := (Nat.div_lt_iff_lt_mul (Nat.pow_pos (by omega))).2 (by rw [Nat.mul_comm, ← Nat.pow_succ]; exact h)
  rw [Nat.mod_eq_of_lt hlt] at h0
  have h1 : (48 + n / 10 ^ k) % 256 = 48 := by
    have := congrArg UInt8.toNat h0
    simpa using this
  have h2 : n / 10 ^ k = 0 := by
    generalize n / 10 ^ k = d at hlt h1
    omega
  rcases Nat.lt_or_ge n (10 ^ k) with h3 | h3
  · exact h3
  · have := Nat.div_pos h3 (Nat.pow_pos (by omega)); omega
/-- The digits of a number's part. -/
theorem dgt_part (n a j : Nat) : dgt (n / 10 ^ a) j = dgt n (a + j) := by
  unfold dgt
  rw [Nat.div_div_eq_div_mul, ← Nat.pow_add]
theorem dgt_mod {n m j : Nat} (h : j < m) : dgt (n % 10 ^ m) j = dgt n j := by
  unfold dgt
  congr 2
  obtain ⟨d, rfl⟩ : ∃ d, m = j + 1 + d := ⟨m - j - 1, by omega⟩
  rw [Nat.pow_add, Nat.pow_succ, Nat.mul_assoc, Nat.mod_mul_right_div_self]
  rw [Nat.mod_mul_right_mod]
theorem dgt_toNat (n j : Nat) : (dgt n j).toNat = 48 + n / 10 ^ j % 10 := by
  unfold dgt
  simp only [UInt8.toNat_ofNat']
  omega
end Go.Proofs.YtfafiahefjimdaaGreatDoor

namespace Go.Proofs.YtfafiahefjimdaaGreatDoor
open Go Go.RowKit

set_option maxRecDepth 100000 in
set_option maxHeartbeats 2000000 in
theorem gMaxPow (w : World) : Calls Tryz.prog 322 #[.int .u64 10] w (fun e w' => e = .returned (.tuple #[.int .u64 10000000000000000000, .int .i64 19]) ∧ w' = w) := by
  go_enter Tryz.func322, Tryz.ntmps322
  go_wp2
  go_loop [2, 3] (fun a b => ∃ k : Nat, k ≤ 18 ∧ a = .int .u64 (10 ^ (k + 1)) ∧ b = .int .i64 (k + 1)) (fun _ b => match b with | .int _ z => (19 - z).toNat | _ => 0)
  case atStart => exact ⟨0, by omega, rfl, rfl⟩
  case round =>
    obtain ⟨k, hk, rfl, rfl⟩ := hrel
    have hc : k = 0 ∨ k = 1 ∨ k = 2 ∨ k = 3 ∨ k = 4 ∨ k = 5 ∨ k = 6 ∨ k = 7 ∨ k = 8 ∨ k = 9 ∨ k = 10 ∨ k = 11 ∨ k = 12 ∨ k = 13 ∨ k = 14 ∨ k = 15 ∨ k = 16 ∨ k = 17 ∨ k = 18 := by omega
    clear hk
    rcases hc with rfl | rfl | rfl | rfl | rfl | rfl | rfl | rfl | rfl | rfl | rfl | rfl | rfl | rfl | rfl | rfl | rfl | rfl | rfl
    all_goals go_wp2
    all_goals first
      | (go_ret2; exact ⟨rfl, rfl⟩)
      | (go_round
         case rel => first | exact ⟨1, by omega, rfl, rfl⟩ | exact ⟨2, by omega, rfl, rfl⟩ | exact ⟨3, by omega, rfl, rfl⟩ | exact ⟨4, by omega, rfl, rfl⟩ | exact ⟨5, by omega, rfl, rfl⟩ | exact ⟨6, by omega, rfl, rfl⟩ | exact ⟨7, by omega, rfl, rfl⟩ | exact ⟨8, by omega, rfl, rfl⟩ | exact ⟨9, by omega, rfl, rfl⟩ | exact ⟨10, by omega, rfl, rfl⟩ | exact ⟨11, by omega, rfl, rfl⟩ | exact ⟨12, by omega, rfl, rfl⟩ | exact ⟨13, by omega, rfl, rfl⟩ | exact ⟨14, by omega, rfl, rfl⟩ | exact ⟨15, by omega, rfl, rfl⟩ | exact ⟨16, by omega, rfl, rfl⟩ | exact ⟨17, by omega, rfl, rfl⟩ | exact ⟨18, by omega, rfl, rfl⟩
         case measure => simp)

theorem blen_le_iff {x k : Nat} (hx : x < B64) (hk : k ≤ 64) : Lib.bitLen x ≤ k ↔ x < 2 ^ k := by
  refine ⟨fun h => ?_, fun h => Lib.bitLen_le x k hk h⟩
  exact Nat.lt_of_lt_of_le (blen_iff hx).1 (Nat.pow_le_pow_right (by omega) h)
theorem smear {t : Nat} (k : Nat) (K : Int) (hK : K = ((2 ^ k : Nat) : Int)) (ht : t < B64) : ∃ t' : Nat, bits .or .u64 (t : Int) ((t : Int) / K) = (t' : Int) ∧ t' < B64 ∧ Lib.bitLen t' = Lib.bitLen t := by
  have h2 : t / 2 ^ k ≤ t := Nat.div_le_self _ _
  refine ⟨t ||| t / 2 ^ k, by rw [hK]; exact bits_or_u64_nat _ _ (by unfold B64 at ht; exact ht) (by unfold B64 at ht; omega), Nat.or_lt_two_pow (n := 64) ht (Nat.lt_of_le_of_lt h2 ht), ?_⟩
  have hlt : t ||| t / 2 ^ k < B64 := Nat.or_lt_two_pow (n := 64) ht (Nat.lt_of_le_of_lt h2 ht)
  obtain ⟨h3, _, h4⟩ := blen_iff ht
  refine Nat.le_antisymm ((blen_le_iff hlt h4).2 (Nat.or_lt_two_pow h3 (Nat.lt_of_le_of_lt h2 h3))) ?_
  obtain ⟨h5, _, h6⟩ := blen_iff hlt
  exact (blen_le_iff ht h6).2 (Nat.lt_of_le_of_lt Nat.left_le_or h5)

set_option maxRecDepth 100000 in
set_option maxHeartbeats 1000000 in
theorem gBitLen (B : Option Addr) (cb : Nat) (xs : List Nat) (m : Nat) (w : World) (hx : Words w B xs) (hm : xs.length = m + 1) (hmx : m ≤ 100000) :
    Calls Tryz.prog 319 #[.slice B (m + 1 : Nat) cb] w (fun e w' => e = .returned (.int .i64 ((m * 64 + Lib.bitLen (xs[m]'(by omega)) : Nat) : Int)) ∧ w' = w) := by
  obtain ⟨bx, ox, rfl, _, hcell⟩ := hx.2 (by intro e; subst e; simp at hm)
  obtain ⟨x, hxm⟩ : ∃ x, x = xs[m]'(by omega) := ⟨_, rfl⟩
  have cx : w.cell? ⟨bx, ox + m, none⟩ = some (.int .u64 (x : Int)) := by rw [hxm]; exact hcell m (by omega)
  have hxB : x < B64 := by rw [hxm]; exact hx.1 _ (List.getElem_mem _)
  rw [← hxm]
  obtain ⟨x1, s1, b1, l1⟩ := smear 1 2 rfl hxB
  obtain ⟨x2, s2, b2, l2⟩ := smear 2 4 rfl b1
  obtain ⟨x3, s3, b3, l3⟩ := smear 4 16 rfl b2
  obtain ⟨x4, s4, b4, l4⟩ := smear 8 256 rfl b3
  obtain ⟨x5, s5, b5, l5⟩ := smear 16 65536 rfl b4
  obtain ⟨x6, s6, b6, l6⟩ := smear 32 4294967296 rfl b5
  have s6' : bits .or .u64 (x5 : Int) ((x5 : Int) / 65536 / 65536) = (x6 : Int) := by rw [← s6]; congr 1; omega
  have HL := Lib.hid (fun W => bLen (x6 : Int) W (by omega) (by unfold B64 at b6; omega))
  rw [Int.toNat_natCast, l6, l5, l4, l3, l2, l1] at HL
  have hbl := (blen_iff hxB).2.2
  obtain ⟨L, hL⟩ : ∃ L, L = Lib.bitLen x := ⟨_, rfl⟩
  rw [← hL] at HL hbl ⊢
  clear hx hm hcell hxm l1 l2 l3 l4 l5 l6 hL
  go_enter Tryz.func319, Tryz.ntmps319
  go_wp2_with (go_at_call 326; (with_reducible refine (HL.out _).mono ?_); rintro e w' ⟨rfl, hw⟩; obtain rfl := hw.symm)
  go_ret
  exact ⟨rfl, rfl⟩
/-- The threshold of the division by powers lies. -/
def Leaf (w : World) : Prop := w.cell? ⟨12, 0, none⟩ = some (.int .i64 8)
theorem Leaf.ext {w w' : World} (h : Leaf w) (e : Ext w w') : Leaf w' := e.cell' h
set_option maxRecDepth 100000 in
theorem gDivisors (stk : Option Addr) (m : Nat) (b bb : Int) (nd : Int) (w : World) (hm : m ≤ 8) (hL : Leaf w) :
    Calls Tryz.prog 323 #[.pointer stk, .int .i64 m, .int .u64 b, .int .i64 nd, .int .u64 bb] w (fun e w' => e = .returned (.slice none 0 0) ∧ w' = w) := by
  have hL' : w.cell? ⟨12, 0, none⟩ = some (.int .i64 8) := hL
  have h8 : (m : Int) ≤ 8 := by omega
  clear hL hm
  go_enter Tryz.func323, Tryz.ntmps323
  go_wp2
  go_ret
  exact ⟨rfl, rfl⟩
theorem fBits (x : Nat) (hx : x = 4621819117588971520) (W : World) : (callFunc 405 #[.float .f64 x]).run Tryz.prog W = .ok (.value (.int .u64 (x : Int))) W := by subst hx; kernel_rfl
theorem fFrom (x : Nat) (hx : x = 4621819117588971520 ∨ x = 4603804719079489536) (W : World) : (callFunc 406 #[.int .u64 (x : Int)]).run Tryz.prog W = .ok (.value (.float .f64 x)) W := by rcases hx with rfl | rfl <;> kernel_rfl
theorem fLog (W : World) : (callFunc 393 #[.float .f64 4603804719079489536]).run Tryz.prog W = .ok (.value (.float .f64 13825510489450817230)) W := by kernel_rfl
set_option maxRecDepth 100000 in
theorem mAbs (w : World) : Calls Tryz.prog 409 #[.float .f64 4621819117588971520] w (fun e w' => e = .returned (.float .f64 4621819117588971520) ∧ w' = w) := by
  have h1 := fBits 4621819117588971520 rfl
  have h2 := fFrom 4621819117588971520 (Or.inl rfl)
  rw [show ((4621819117588971520 : Nat) : Int) = 4621819117588971520 from rfl] at h1 h2
  have h3 : bits .andNot .u64 4621819117588971520 9223372036854775808 = 4621819117588971520 := by decide +kernel
  go_enter Tryz.func409, Tryz.ntmps409
  go_wp2
  go_ret
  exact ⟨rfl, rfl⟩
set_option maxRecDepth 100000 in
theorem mIsNaN (w : World) : Calls Tryz.prog 403 #[.float .f64 4621819117588971520] w (fun e w' => e = .returned (.bool false) ∧ w' = w) := by
  have h1 : ∀ W : World, (binOp .neq 332 (.float .f64 4621819117588971520) (.float .f64 4621819117588971520)).run Tryz.prog W = .ok (.bool false) W := fun _ => by kernel_rfl
  go_enter Tryz.func403, Tryz.ntmps403
  go_wp2
  go_ret
  exact ⟨rfl, rfl⟩
set_option maxRecDepth 100000 in
theorem mIsInf (w : World) : Calls Tryz.prog 402 #[.float .f64 4621819117588971520, .int .i64 0] w (fun e w' => e = .returned (.bool false) ∧ w' = w) := by
  have h1 : ∀ W : World, (binOp .gtr 332 (.float .f64 4621819117588971520) (.float .f64 9218868437227405311)).run Tryz.prog W = .ok (.bool false) W := fun _ => by kernel_rfl
  go_enter Tryz.func402, Tryz.ntmps402
  go_wp2_with (go_at_call 409; (with_reducible refine (mAbs _).mono ?_); rintro e w' ⟨rfl, hw⟩; obtain rfl := hw.symm)
  go_ret
  exact ⟨rfl, rfl⟩
set_option maxRecDepth 100000 in
theorem mNormalize (w : World) : Calls Tryz.prog 404 #[.float .f64 4621819117588971520] w (fun e w' => e = .returned (.tuple #[.float .f64 4621819117588971520, .int .i64 0]) ∧ w' = w) := by
  have h1 : ∀ W : World, (binOp .lss 332 (.float .f64 4621819117588971520) (.float .f64 4503599627370496)).run Tryz.prog W = .ok (.bool false) W := fun _ => by kernel_rfl
  go_enter Tryz.func404, Tryz.ntmps404
  go_wp2_with (go_at_call 409; (with_reducible refine (mAbs _).mono ?_); rintro e w' ⟨rfl, hw⟩; obtain rfl := hw.symm)
  go_ret2
  exact ⟨rfl, rfl⟩
set_option maxRecDepth 100000 in
theorem mfrexp (w : World) : Calls Tryz.prog 392 #[.float .f64 4621819117588971520] w (fun e w' => e = .returned (.tuple #[.float .f64 4603804719079489536, .int .i64 4]) ∧ w' = w) := by
  have h1 : ∀ W : World, (binOp .eql 332 (.float .f64 4621819117588971520) (.float .f64 0)).run Tryz.prog W = .ok (.bool false) W := fun _ => by kernel_rfl
  have h2 := fBits 4621819117588971520 rfl
  have h3 := fFrom 4603804719079489536 (Or.inr rfl)
  rw [show ((4621819117588971520 : Nat) : Int) = 4621819117588971520 from rfl] at h2
  rw [show ((4603804719079489536 : Nat) : Int) = 4603804719079489536 from rfl] at h3
  have b1 : bits .and .u64 1026 2047 = 1026 := by decide +kernel
  have b2 : bits .andNot .u64 4621819117588971520 9218868437227405312 = 1125899906842624 := by decide +kernel
  have b3 : bits .or .u64 1125899906842624 4602678819172646912 = 4603804719079489536 := by decide +kernel
  go_enter Tryz.func392, Tryz.ntmps392
  go_wp2_with (first | (go_at_call 402; (with_reducible refine (mIsInf _).mono ?_); rintro e w' ⟨rfl, hw⟩; obtain rfl := hw.symm) | (go_at_call 403; (with_reducible refine (mIsNaN _).mono ?_); rintro e w' ⟨rfl, hw⟩; obtain rfl := hw.symm) | (go_at_call 404; (with_reducible refine (mNormalize _).mono ?_); rintro e w' ⟨rfl, hw⟩; obtain rfl := hw.symm))
  go_ret2
  exact ⟨rfl, rfl⟩
set_option maxRecDepth 100000 in
theorem mFrexp (w : World) : Calls Tryz.prog 375 #[.float .f64 4621819117588971520] w (fun e w' => e = .returned (.tuple #[.float .f64 4603804719079489536, .int .i64 4]) ∧ w' = w) := by
  go_enter Tryz.func375, Tryz.ntmps375
  go_wp2_with (go_at_call 392; (with_reducible refine (mfrexp _).mono ?_); rintro e w' ⟨rfl, hw⟩; obtain rfl := hw.symm)
  go_ret2
  exact ⟨rfl, rfl⟩
set_option maxRecDepth 100000 in
theorem mLog (w : World) : Calls Tryz.prog 376 #[.float .f64 4603804719079489536] w (fun e w' => e = .returned (.float .f64 13825510489450817230) ∧ w' = w) := by
  have h1 := fLog
  go_enter Tryz.func376, Tryz.ntmps376
  go_wp2
  go_ret
  exact ⟨rfl, rfl⟩
set_option maxRecDepth 100000 in
theorem mlog2 (w : World) : Calls Tryz.prog 348 #[.float .f64 4621819117588971520] w (fun e w' => e = .returned (.float .f64 4614662735865160561) ∧ w' = w) := by
  have h1 : ∀ W : World, (binOp .eql 332 (.float .f64 4603804719079489536) (.float .f64 4602678819172646912)).run Tryz.prog W = .ok (.bool false) W := fun _ => by kernel_rfl
  have h2 : ∀ W : World, (binOp .mul 332 (.float .f64 13825510489450817230) (.float .f64 4609176140021203710)).run Tryz.prog W = .ok (.float .f64 13827654785158443579) W := fun _ => by kernel_rfl
  have h3 : ∀ W : World, (convert 3 332 (.int .i64 4)).run Tryz.prog W = .ok (.float .f64 4616189618054758400) W := fun _ => by kernel_rfl
  have h4 : ∀ W : World, (binOp .add 332 (.float .f64 13827654785158443579) (.float .f64 4616189618054758400)).run Tryz.prog W = .ok (.float .f64 4614662735865160561) W := fun _ => by kernel_rfl
  go_enter Tryz.func348, Tryz.ntmps348
  go_wp2_with (first | (go_at_call 375; (with_reducible refine (mFrexp _).mono ?_); rintro e w' ⟨rfl, hw⟩; obtain rfl := hw.symm) | (go_at_call 376; (with_reducible refine (mLog _).mono ?_); rintro e w' ⟨rfl, hw⟩; obtain rfl := hw.symm))
  go_ret
  exact ⟨rfl, rfl⟩
set_option maxRecDepth 100000 in
theorem mLog2 (w : World) : Calls Tryz.prog 320 #[.float .f64 4621819117588971520] w (fun e w' => e = .returned (.float .f64 4614662735865160561) ∧ w' = w) := by
  go_enter Tryz.func320, Tryz.ntmps320
  go_wp2_with (go_at_call 348; (with_reducible refine (mlog2 _).mono ?_); rintro e w' ⟨rfl, hw⟩; obtain rfl := hw.symm)
  go_ret
  exact ⟨rfl, rfl⟩
end Go.Proofs.YtfafiahefjimdaaGreatDoor

namespace Go.Proofs.YtfafiahefjimdaaGreatDoor
open Go Go.RowKit

/-- A byte's value. -/
def bv (b : UInt8) : Value := .int .u8 (b.toNat : Int)
/-- A row of m bytes still nought, and the c lowest digits of N. -/
def dst (m N c : Nat) : List Value := List.replicate m (.int .u8 0) ++ (dgN c N).map bv
theorem dst_length (m N c : Nat) : (dst m N c).length = m + c := by simp [dst, dgN_length]
theorem dst_set (m N c : Nat) : (dst (m + 1) N c).set m (bv (dgt N c)) = dst m N (c + 1) := by
  unfold dst
  rw [List.set_append_left _ _ (by simp), List.replicate_succ', List.set_append_right _ _ (by simp)]
  simp [dgN]
theorem dst_step {w : World} {g m N c : Nat} {t : TypeId} (hb : Blk w g t (dst (m + 1) N c)) (v : Value) (hv : v = bv (dgt N c)) : Blk (w.setCell ⟨g, m, none⟩ v) g t (dst m N (c + 1)) := by
  have h := hb.set_ m v
  rwa [hv, dst_set, ← hv] at h
theorem dst_old {w : World} {g m N c : Nat} {t : TypeId} (hb : Blk w g t (dst (m + 1) N c)) : ∃ v, w.cell? ⟨g, m, none⟩ = some v := hb.old m (by rw [dst_length]; omega)
theorem digit_val (x : Nat) : Value.int .u8 (48 + ((x : Int) - (x : Int) / 10 * 10)) = bv (UInt8.ofNat (48 + x % 10)) := by
  unfold bv
  congr 1
  simp only [UInt8.toNat_ofNat']
  omega

theorem digit_at {N R k cd jj ρ : Nat} (hc : cd = 19 * k) (hρ : ρ = R / 10 ^ jj) (hR : R = N / 10 ^ (19 * k) % 10 ^ 19) (hj : jj < 19) : UInt8.ofNat (48 + ρ % 10) = dgt N (cd + jj) := by
  have h1 : UInt8.ofNat (48 + ρ % 10) = dgt R jj := by rw [hρ]; rfl
  rw [h1, hR, dgt_mod hj, dgt_part, hc]

set_option maxRecDepth 100000 in
set_option maxHeartbeats 4000000 in
theorem gConvert (stk : Option Addr) (A0 : Option Addr) (c0 gz0 : Nat) (xs0 : List Nat) (g n N : Nat) (w0 w : World) (hE : Ext w0 w) (hv : NatV w A0 c0 gz0 xs0) (hN : Norm xs0) (hxN : natOf xs0 = N) (hl : xs0.length ≤ 50) (hb : Blk w g 5 (List.replicate n (.int .u8 0))) (hg : w0.heap.size ≤ g) (hgz : A0 ≠ none → w0.heap.size ≤ gz0) (hgg : A0 ≠ none → gz0 ≠ g) (hNn : N < 10 ^ n) (hn : n ≤ 1000) (sb : Nat) (T : TypeId) (scs : List Value) (hsb : Blk w sb T scs) (hT : 221 ≠ T) (hsg : sb ≠ g) :
    Calls Tryz.prog 324 #[.slice A0 xs0.length c0, .pointer stk, .slice (some ⟨g, 0, none⟩) n n, .int .u64 10, .int .i64 19, .int .u64 10000000000000000000, .slice none 0 0] w (fun e w' => e = .returned (.tuple #[]) ∧ Blk w' g 5 (dst 0 N n) ∧ Blk w' sb T scs ∧ Ext w0 w') := by
  have HNN := Lib.hid hNn; clear hNn
  have HV := Lib.hid hv; have HN0 := Lib.hid hN; have HX := Lib.hid hxN; have HB := Lib.hid hb; have HE := Lib.hid hE; have HG := Lib.hid hg; have HGZ := Lib.hid hgz; have HGG := Lib.hid hgg; have HL := Lib.hid hl; have HSB := Lib.hid hsb; have HSG := Lib.hid hsg; have HTT := Lib.hid hT
  clear hv hN hxN hb hE hgz hgg hg hl hsb hsg hT
  go_enter Tryz.func324, Tryz.ntmps324
  go_wp2
  go_loopw [0, 19] (fun q i wr => ∃ (A : Option Addr) (c gz : Nat) (xs : List Nat) (k m cd : Nat), q = .slice A xs.length c ∧ i = .int .i64 (m : Int) ∧ m + cd = n ∧ NatV wr A c gz xs ∧ Norm xs ∧ natOf xs = N / 10 ^ (19 * k) ∧ xs.length ≤ 50 ∧ (cd = 19 * k ∨ (m = 0 ∧ cd ≤ 19 * k)) ∧ Blk wr g 5 (dst m N cd) ∧ Ext w0 wr ∧ (A ≠ none → w0.heap.size ≤ gz) ∧ (A ≠ none → gz ≠ g) ∧ Blk wr sb T scs) (fun _ i _ => match i with | .int _ z => z.toNat | _ => 0)
  case atStart =>
    refine ⟨A0, c0, gz0, xs0, 0, n, 0, rfl, rfl, rfl, HV.out, HN0.out, by rw [HX.out]; simp, HL.out, Or.inl rfl, ?_, HE.out, HGZ.out, HGG.out, HSB.out⟩
    have : dst n N 0 = List.replicate n (.int .u8 0) := by simp [dst, dgN]
    rw [this]; exact HB.out
  case round =>
    obtain ⟨A, c, gz, xs, k, m, cd, rfl, rfl, hmc, h1, h2, h3, h4, h5, h6, h7, h8, h9, h10⟩ := hrel
    have K1 := Lib.hid h1; have K2 := Lib.hid h2; have K3 := Lib.hid h3; have K4 := Lib.hid h4; have K5 := Lib.hid h5; have K6 := Lib.hid h6; have K7 := Lib.hid h7; have K8 := Lib.hid h8; have K9 := Lib.hid h9; have KS := Lib.hid h10; have KM := Lib.hid hmc
    clear h1 h2 h3 h4 h5 h6 h7 h8 h9 h10 hmc
    rcases Nat.eq_zero_or_pos xs.length with h0 | h0
    · have hxs : xs = [] := List.eq_nil_of_length_eq_zero h0
      subst hxs
      have HZ := Lib.hid (show N / 10 ^ (19 * k) = 0 by rw [← K3.out]; rfl)
      go_wp2
      obtain ⟨W2, hW2⟩ : ∃ W2, W2 = wr := ⟨_, rfl⟩
      rw [← hW2] at K6 K7 KS ⊢
      go_loopw [19] (fun i wz => ∃ m cd : Nat, i = .int .i64 (m : Int) ∧ m + cd = n ∧ (m = 0 ∨ N < 10 ^ cd) ∧ Blk wz g 5 (dst m N cd) ∧ Blk wz sb T scs ∧ Ext w0 wz) (fun i _ => match i with | .int _ z => z.toNat | _ => 0)
      case atStart =>
        refine ⟨m, cd, rfl, KM.out, ?_, K6.out, KS.out, K7.out⟩
        rcases K5.out with h | h
        · right
          rw [h]
          have := HZ.out
          rcases Nat.lt_or_ge N (10 ^ (19 * k)) with h2 | h2
          · exact h2
          · have := Nat.div_pos h2 (Nat.pow_pos (by omega)); omega
        · exact Or.inl h.1
      case round =>
        obtain ⟨m2, cd2, rfl, hmc2, hlt, hb2, hs2, hE2⟩ := hrel
        have JS := Lib.hid hs2; have J1 := Lib.hid hmc2; have J2 := Lib.hid hlt; have J3 := Lib.hid hb2; have J4 := Lib.hid hE2
        clear hmc2 hlt hb2 hE2 hs2
        rcases Nat.eq_zero_or_pos m2 with h2 | h2
        · subst h2
          go_wp2
          go_end0
          have e : cd2 = n := by have := J1.out; omega
          exact ⟨rfl, by rw [← e]; exact J3.out, JS.out, J4.out⟩
        · obtain ⟨m3, rfl⟩ : ∃ m3, m2 = m3 + 1 := ⟨m2 - 1, by omega⟩
          obtain ⟨old, hold⟩ := dst_old J3.out
          have hfz := J3.out.frozen m3
          have hmn : (m3 : Int) < (n : Int) := by have := J1.out; omega
          have hfit : N < 10 ^ cd2 := J2.out.elim (fun h => by omega) id
          have HF := Lib.hid hfit
          clear hfit h2
          go_wp2
          go_roundw
          case rel => exact ⟨m3, cd2 + 1, by go_num, by have := J1.out; omega, Or.inr (Nat.lt_trans HF.out (Nat.pow_lt_pow_right (by omega) (by omega))), dst_step J3.out _ (by rw [dgt_zero HF.out]; rfl), ((Only.refl _ _).set_ _ _).block' JS.out HSG.out, Only.ext J4.out ((Only.refl _ _).set_ _ _) HG.out⟩
          case measure => first | (simp; done) | (simp; omega)
    · have hxs : xs ≠ [] := by intro e; subst e; simp at h0
      have hA := (K1.out.cell hxs).1
      have hgz := K8.out (by rw [hA]; simp)
      have hgg := K9.out (by rw [hA]; simp)
      have hdv := gDivWN 10000000000000000000 (by omega) (by unfold B64; omega) (by omega) A xs.length c gz xs A c xs xs.length wr K1.out (K1.out.opd gz c (Or.inr rfl)) rfl (by have := K4.out; omega)
      rw [show ((10000000000000000000 : Nat) : Int) = 10000000000000000000 from rfl] at hdv
      have HD := Lib.hid hdv
      have HNE := Lib.hid hxs
      have HSZ := Lib.hid (show sb ≠ gz by
        obtain ⟨_, ⟨cs', hk'⟩, _⟩ := K1.out.cell hxs
        exact KS.out.ne hk' (Ne.symm HTT.out))
      have hmp : 0 < m := by
        rcases K5.out with h | h
        · rcases Nat.eq_zero_or_pos m with h1 | h1
          · exfalso
            apply hxs
            apply (nil_iff K2.out).1
            rw [K3.out, ← h, show cd = n by have := KM.out; omega]
            exact Nat.div_eq_of_lt HNN.out
          · exact h1
        · exfalso
          apply hxs
          apply (nil_iff K2.out).1
          rw [K3.out]
          refine Nat.div_eq_of_lt (Nat.lt_of_lt_of_le HNN.out (Nat.pow_le_pow_right (by omega) ?_))
          have := KM.out; omega
      have hck : cd = 19 * k := K5.out.elim id (fun h => by omega)
      have HCK := Lib.hid hck; have HMP := Lib.hid hmp
      clear hdv hxs hA hck hmp
      obtain ⟨L, hLL⟩ : ∃ L, L = xs.length := ⟨_, rfl⟩
      rw [← hLL] at HD h0 ⊢
      have HLL := Lib.hid hLL; clear hLL
      go_wp2_with (fail)
      go_at_call 281
      refine HD.out.mono ?_
      rintro e w1 ⟨A1, c1, g1, ws, rfl, hv1, hn1, hq1, ho1, hg1⟩
      have hE1 := Only.ext K7.out ho1 hgz
      have hb1 := ho1.block' K6.out (Ne.symm hgg)
      have hs1 := ho1.block' KS.out HSZ.out
      have hle : ws.length ≤ 50 := by
        rcases Nat.lt_or_ge xs.length ws.length with h | h
        · have h5 := natOf_lt_len hn1 K1.out.lt64 h
          rw [hq1] at h5
          have := Nat.div_le_self (natOf xs) 10000000000000000000
          omega
        · have := K4.out; omega
      have hgw : w0.heap.size ≤ g1 ∧ g1 ≠ g := by
        rcases hg1 with rfl | h
        · exact ⟨hgz, hgg⟩
        · have := K7.out.size; have := K6.out.lt; exact ⟨by omega, by omega⟩
      obtain ⟨R, hR⟩ : ∃ R, R = natOf xs % 10000000000000000000 := ⟨_, rfl⟩
      rw [← hR]
      have hq2 : natOf ws = N / 10 ^ (19 * (k + 1)) := by
        rw [hq1, K3.out, Nat.div_div_eq_div_mul, show (10000000000000000000 : Nat) = 10 ^ 19 from rfl, ← Nat.pow_add]
        rfl
      have hR2 : R = N / 10 ^ (19 * k) % 10 ^ 19 := by rw [hR, K3.out]
      have M1 := Lib.hid hv1; have M2 := Lib.hid hn1; have M3 := Lib.hid hq2; have M4 := Lib.hid hle; have M5 := Lib.hid hb1; have M6 := Lib.hid hE1; have M7 := Lib.hid hgw; have MS := Lib.hid hs1; have M8 := Lib.hid hR2
      clear hs1 hv1 hn1 hq1 ho1 hg1 hE1 hb1 hle hgw hR hq2 hR2 hgz hgg
      go_wp2
      go_loopw [19, 20, 21] (fun i r j wz => ∃ m2 ρ jj : Nat, i = .int .i64 (m2 : Int) ∧ r = .int .u64 (ρ : Int) ∧ j = .int .i64 (jj : Int) ∧ m2 + (cd + jj) = n ∧ jj ≤ 19 ∧ ρ = R / 10 ^ jj ∧ Blk wz g 5 (dst m2 N (cd + jj)) ∧ Ext w0 wz ∧ NatV wz A1 c1 g1 ws ∧ Blk wz sb T scs) (fun _ _ j _ => match j with | .int _ z => (19 - z).toNat | _ => 0)
      case atStart => exact ⟨m, R, 0, rfl, rfl, rfl, by have := KM.out; omega, by omega, by simp, M5.out, M6.out, M1.out, MS.out⟩
      case round =>
        obtain ⟨m2, ρ, jj, rfl, rfl, rfl, j1, hjj, j3, j4, j5, j6, j7⟩ := hrel
        have J7 := Lib.hid j7; have J1 := Lib.hid j1; have J3 := Lib.hid j3; have J4 := Lib.hid j4; have J5 := Lib.hid j5; have J6 := Lib.hid j6
        clear j1 j3 j4 j5 j6 j7
        by_cases hex : jj < 19 ∧ 0 < m2
        · obtain ⟨hx1, hx2⟩ := hex
          obtain ⟨m3, rfl⟩ : ∃ m3, m2 = m3 + 1 := ⟨m2 - 1, by omega⟩
          obtain ⟨old, hold⟩ := dst_old J4.out
          have hfz := J4.out.frozen m3
          have hmn : (m3 : Int) < (n : Int) := by have := J1.out; omega
          have hρ : ρ < 10000000000000000000 := by
            rw [J3.out]
            refine Nat.lt_of_le_of_lt (Nat.div_le_self _ _) ?_
            rw [M8.out]
            exact Nat.mod_lt _ (by omega)
          have HRO := Lib.hid hρ
          have hρi : (ρ : Int) ≤ 9999999999999999999 := by omega
          have hj19 : (jj : Int) < 19 := by omega
          clear hx2 hρ hx1
          go_wp2
          go_roundw
          case rel => exact ⟨m3, ρ / 10, jj + 1, by go_num, by go_num, by go_num, by have := J1.out; omega, by omega, by rw [J3.out, Nat.div_div_eq_div_mul, Nat.pow_succ], dst_step J4.out _ (by rw [← digit_at HCK.out J3.out M8.out (by omega)]; exact digit_val ρ), Only.ext J5.out ((Only.refl _ _).set_ _ _) HG.out, J6.out.only ((Only.refl _ _).set_ _ _) (fun _ => M7.out.2), ((Only.refl _ _).set_ _ _).block' J7.out HSG.out⟩
          case measure => first | (simp; done) | (simp; omega)
        · rcases (by omega : jj = 19 ∨ (jj < 19 ∧ m2 = 0)) with h | ⟨h, h2⟩
          · subst h
            clear hex hjj
            go_wp2
            go_roundw
            case rel => exact ⟨A1, c1, g1, ws, k + 1, m2, cd + 19, rfl, rfl, J1.out, J6.out, M2.out, M3.out, M4.out, Or.inl (by have := HCK.out; omega), J4.out, J5.out, fun _ => M7.out.1, fun _ => M7.out.2, J7.out⟩
            case measure => have := HMP.out; have := J1.out; have := KM.out; first | (simp; done) | (simp; omega)
          · subst h2
            have hj19 : (jj : Int) < 19 := by omega
            clear hex
            go_wp2
            go_roundw
            case rel => exact ⟨A1, c1, g1, ws, k + 1, 0, cd + jj, rfl, rfl, J1.out, J6.out, M2.out, M3.out, M4.out, Or.inr ⟨rfl, by have := HCK.out; omega⟩, J4.out, J5.out, fun _ => M7.out.1, fun _ => M7.out.2, J7.out⟩
            case measure => have := HMP.out; first | (simp; done) | (simp; omega)
end Go.Proofs.YtfafiahefjimdaaGreatDoor

namespace Go.Proofs.YtfafiahefjimdaaGreatDoor
open Go Go.RowKit

theorem len_float : ∀ n : Fin 200, (do let r ← floatBits .quo .f64 (floatOfInt .f64 (n.val : Int)) 4614662735865160561; floatToIntVal .f64 r .i64) = some ((n.val * 30103 / 100000 : Nat) : Int) := by decide +kernel
theorem len_enough : ∀ n : Fin 200, 2 ^ n.val ≤ 10 ^ (n.val * 30103 / 100000 + 1) := by decide +kernel
theorem len_runs (bl : Nat) (h : bl < 200) : ∃ F r : Nat, (∀ W, (convert 3 332 (.int .i64 (bl : Int))).run Tryz.prog W = .ok (.float .f64 F) W) ∧ (∀ W, (binOp .quo 332 (.float .f64 F) (.float .f64 4614662735865160561)).run Tryz.prog W = .ok (.float .f64 r) W) ∧ (∀ W, (convert 332 3 (.float .f64 r)).run Tryz.prog W = .ok (.int .i64 ((bl * 30103 / 100000 : Nat) : Int)) W) := by
  have hf := len_float ⟨bl, h⟩
  obtain ⟨r, h1, h2⟩ := Option.bind_eq_some_iff.1 hf
  refine ⟨floatOfInt .f64 (bl : Int), r, fun W => ?_, fun W => run_float_arith W .quo _ .f64 _ _ r h1, fun W => run_convert_float_int W _ _ .f64 .i64 r _ (by kernel_rfl) (by kernel_rfl) h2⟩
  exact run_convert_int_float W _ _ _ _ _ (by kernel_rfl) (by kernel_rfl)
theorem natOf_bits {xs : List Nat} {m : Nat} (hb : ∀ x ∈ xs, x < B64) (hm : xs.length = m + 1) : natOf xs < 2 ^ (m * 64 + Lib.bitLen (xs[m]'(by omega))) := by
  rw [natOf_split xs m (by omega), List.drop_of_length_le (by omega)]
  have h1 := natOf_lt (xs.take m) (fun x hx => hb x (List.mem_of_mem_take hx))
  rw [List.length_take, Nat.min_eq_left (by omega)] at h1
  have h2 := (blen_iff (hb _ (List.getElem_mem (show m < xs.length by omega)))).1
  have h3 : B64 ^ m * (xs[m] + 1) ≤ B64 ^ m * 2 ^ Lib.bitLen xs[m] := Nat.mul_le_mul_left _ h2
  have h4 : B64 ^ m * 2 ^ Lib.bitLen xs[m] = 2 ^ (m * 64 + Lib.bitLen xs[m]) := by
    rw [Nat.pow_add]
    congr 1
    rw [show B64 = 2 ^ 64 from rfl, ← Nat.pow_mul, Nat.mul_comm]
  rw [Nat.mul_add, Nat.mul_one] at h3
  simp only [natOf]
  rw [← h4]
  rw [Nat.mul_zero, Nat.add_zero]
  omega
theorem dgN_get (k n p : Nat) (h : p < k) : (dgN k n)[p]? = some (dgt n (k - 1 - p)) := by
  induction k generalizing p with
  | zero => omega
  | succ k ih =>
    rw [dgN]
    cases p with
    | zero => simp
    | succ p => rw [List.getElem?_cons_succ, ih p (by omega)]; congr 2; omega
theorem dgN_drop (p c n : Nat) : (dgN (p + c) n).drop p = dgN c n := by
  induction p with
  | zero => simp
  | succ p ih => rw [show p + 1 + c = (p + c) + 1 by omega, dgN, List.drop_succ_cons, ih]

/-- Bytes handed back, in memory. -/
def RetBytes (l : List UInt8) (w : World) (e : Ending) (w' : World) : Prop :=
  ∃ g o c, e = .returned (.slice (some ⟨g, o, none⟩) l.length c) ∧ (∀ j (h : j < l.length), w'.cell? ⟨g, o + j, none⟩ = some (bv l[j])) ∧ l.length ≤ c ∧ Ext w w'
theorem bytes_from {w : World} {g n N p k : Nat} (hb : Blk w g 5 (dst 0 N n)) (hn : n = p + (k + 1)) (hN : N < 10 ^ (k + 1)) (h0 : dgt N k ≠ 48) : n - p = (decL N).length ∧ ∀ j (h : j < (decL N).length), w.cell? ⟨g, p + j, none⟩ = some (bv (decL N)[j]) := by
  have hd := decL_of hN h0
  have hl : (decL N).length = k + 1 := by rw [← hd, dgN_length]
  refine ⟨by omega, fun j hj => ?_⟩
  rw [hb.cell]
  unfold dst
  rw [List.replicate_zero, List.nil_append, List.getElem?_map]
  have e1 : (dgN n N)[p + j]? = (decL N)[j]? := by rw [← hd, hn, ← List.getElem?_drop, dgN_drop]
  rw [e1, List.getElem?_eq_getElem hj]
  rfl
theorem bytes_neg {w : World} {g n N p k : Nat} (hb : Blk w g 5 (dst 0 N n)) (hn : n = p + 1 + (k + 1)) (hN : N < 10 ^ (k + 1)) (h0 : dgt N k ≠ 48) :
    n - p = (45 :: decL N).length ∧ ∀ j (h : j < (45 :: decL N).length), (w.setCell ⟨g, p, none⟩ (.int .u8 45)).cell? ⟨g, p + j, none⟩ = some (bv (45 :: decL N)[j]) := by
  obtain ⟨h1, h2⟩ := bytes_from (p := p + 1) hb hn hN h0
  have hs := hb.set_ p (.int .u8 45)
  refine ⟨by simp; omega, fun j hj => ?_⟩
  rw [hs.cell]
  cases j with
  | zero => rw [Nat.add_zero, List.getElem?_set_self (by rw [dst_length]; omega)]; rfl
  | succ j =>
    rw [List.getElem?_set_ne (by omega), ← hb.cell, show p + (j + 1) = p + 1 + j by omega]
    exact h2 j (by simpa using hj)
theorem infoByte : (Tryz.prog.info? 5).map (fun i => (i.zero, i.size, i.bytes)) = some (some (.int .u8 0), 1, 1) := by kernel_rfl
theorem byteMake (n : Nat) (hn : n ≤ 100000) (W : World) : (Instr.makeSlice 148 (.int .i64 (n : Int)) (.int .i64 (n : Int))).run Tryz.prog W = .ok (.slice (some ⟨W.heap.size, 0, none⟩) n n) (W.alloc (.cells (Array.replicate n (.int .u8 0)) 5)) := by
  obtain ⟨i0, hi, hz0, hz1, hz2⟩ := info_parts infoByte
  rw [run_make (P := Tryz.prog) W 148 5 i0 (.int .u8 0) Tryz.underlying148 hi hz0 .i64 .i64 (n : Int) (n : Int) (by omega) (by omega) (by rw [hz2]; omega) (by omega), hz1]
  have e2 : (n : Int).toNat * 1 = n := by omega
  have e3 : madeCells (Value.cells (.int .u8 0)) n = (List.replicate n (Value.int .u8 0)).toArray := by
    rw [← toList_madeCells_one]; rfl
  rw [e2, e3, List.toArray_replicate]; congr 2

set_option maxRecDepth 100000 in
set_option maxHeartbeats 4000000 in
theorem gItoa (neg : Bool) (B : Option Addr) (cb : Nat) (xs : List Nat) (M : Nat) (w : World) (hx : Words w B xs) (hN : Norm xs) (hm : xs.length = M) (h1 : 1 ≤ M) (h2 : M ≤ 2) (hcb : M ≤ cb) (hL : Leaf w) :
    Calls Tryz.prog 290 #[.slice B M cb, .bool neg, .int .i64 10] w (RetBytes ((if neg then [45] else []) ++ decL (natOf xs)) w) := by
  have hx0 : 0 < natOf xs := by
    rcases Nat.eq_zero_or_pos (natOf xs) with h | h
    · have := (nil_iff hN).1 h; subst this; simp at hm; omega
    · exact h
  obtain ⟨m, hM⟩ : ∃ m, M = m + 1 := ⟨M - 1, by omega⟩
  have hbits := natOf_bits hx.1 (hm.trans hM)
  have hbl64 := (blen_iff (hx.1 _ (List.getElem_mem (show m < xs.length by omega)))).2.2
  have HBL := Lib.hid (gBitLen B cb xs m w hx (hm.trans hM) (by omega))
  obtain ⟨bl, hbl⟩ : ∃ bl, bl = m * 64 + Lib.bitLen (xs[m]'(by omega)) := ⟨_, rfl⟩
  rw [← hbl] at hbits HBL
  rw [← hM] at HBL
  obtain ⟨F, r, r1, r2, r3⟩ := len_runs bl (by omega)
  have hen : natOf xs < 10 ^ (bl * 30103 / 100000 + 1) := Nat.lt_of_lt_of_le hbits (len_enough ⟨bl, by omega⟩)
  obtain ⟨i0, hi0⟩ : ∃ i0, i0 = bl * 30103 / 100000 := ⟨_, rfl⟩
  rw [← hi0] at hen r3
  have hi0b : (i0 : Int) ≤ 900 := by omega
  have q1 : ∀ W : World, (convert 3 332 (.int .i64 10)).run Tryz.prog W = .ok (.float .f64 4621819117588971520) W := fun _ => by kernel_rfl
  have q2 : bits .and .u64 10 18446744073709551606 = 2 := by decide +kernel
  have hMi : (1 : Int) ≤ (M : Int) := by omega
  have HX := Lib.hid hx; have HN := Lib.hid hN; have HM := Lib.hid hm; have HLF := Lib.hid hL; have HCB := Lib.hid hcb; have HPOS := Lib.hid hx0
  have HMM := Lib.hid (show 1 ≤ M ∧ M ≤ 8 by omega)
  cases neg
  · obtain ⟨n, hn⟩ : ∃ n, n = i0 + 1 := ⟨_, rfl⟩
    have hmk : ∀ W : World, (Instr.makeSlice 148 (.int .i64 ((i0 : Int) + 1)) (.int .i64 ((i0 : Int) + 1))).run Tryz.prog W = .ok (.slice (some ⟨W.heap.size, 0, none⟩) n n) (W.alloc (.cells (Array.replicate n (.int .u8 0)) 5)) := fun W => by
      rw [show (i0 : Int) + 1 = (n : Int) by omega]; exact byteMake n (by omega) W
    have HEN := Lib.hid (show natOf xs < 10 ^ n ∧ (false = true → natOf xs < 10 ^ (n - 1)) from ⟨by rw [hn]; exact hen, fun h => by cases h⟩)
    have hnb : 1 ≤ n ∧ n ≤ 1000 := by omega
    have HNB := Lib.hid hnb
    clear hbits hbl64 hbl hx hN hm hL hen hi0 hn hnb hM h1 h2 hcb hx0
    go_enter_defers Tryz.func290, Tryz.ntmps290
    go_upto_region 9 with (first | (go_at_call 319; (with_reducible refine HBL.out.mono ?_); rintro e w' ⟨rfl, hw⟩; obtain rfl := hw.symm) | (go_at_call 320; (with_reducible refine (mLog2 _).mono ?_); rintro e w' ⟨rfl, hw⟩; obtain rfl := hw.symm))
    obtain ⟨W1, hW1⟩ : ∃ W1, W1 = w.alloc (.cells (Array.replicate n (.int .u8 0)) 5) := ⟨_, rfl⟩
    rw [← hW1]
    have HB1 := Lib.hid (show Blk W1 w.heap.size 5 (List.replicate n (.int .u8 0)) by rw [hW1]; exact blkMake w n _ _)
    have HE1 := Lib.hid (show Ext w W1 ∧ W1.heap.size = w.heap.size + 1 by rw [hW1]; exact ⟨Ext.alloc' _ _, by simp⟩)
    clear hW1 hmk r1 r2 r3 q1
    go_wp2_with (fail)
    go_at_call 262
    refine (getStack_ W1).mono ?_
    rintro e w3 ⟨s, rfl, hbs, hE3⟩
    have HSN := Lib.hid (show s ≠ w.heap.size from (hbs.ne (HB1.out.ext hE3) (by decide)))
    have HBS := Lib.hid hbs; have HE3 := Lib.hid (HE1.out.1.trans' hE3); have HB3 := Lib.hid (HB1.out.ext hE3)
    have HSZ3 := Lib.hid (show w.heap.size < w3.heap.size by have := hE3.size; have := HE1.out.2; omega)
    clear hbs hE3
    have HDV := Lib.hid (gDivisors (some ⟨s, 0, none⟩) M 10 10000000000000000000 19 w3 HMM.out.2 (HLF.out.ext HE3.out))
    have HST := Lib.hid (gSet none 0 0 w3.heap.size [] B cb xs M w3 (NatV.nil _ _) (opd_old HX.out HE3.out (by rw [HM.out]; exact HCB.out) HE3.out.size) HM.out (by have := HMM.out; omega) HN.out)
    go_wp2_with (first | (go_at_call 322; (with_reducible refine (gMaxPow _).mono ?_); rintro e w' ⟨rfl, hw⟩; obtain rfl := hw.symm) | (go_at_call 323; (with_reducible refine HDV.out.mono ?_); rintro e w' ⟨rfl, hw⟩; obtain rfl := hw.symm) | fail)
    go_at_call 217
    refine HST.out.mono ?_
    rintro e w4 ⟨A1, c1, g1, ws1, rfl, hv1, hn1, hN1, ho1, hg1⟩
    have hE4 : Ext w3 w4 := Only.ext (Ext.refl _) ho1 (Nat.le_refl _)
    have hl50 : ws1.length ≤ 50 := by
      rcases Nat.lt_or_ge xs.length ws1.length with h | h
      · have h5 := natOf_lt_len hn1 HX.out.1 h
        omega
      · have := HM.out; have := HMM.out; omega
    have HCV := Lib.hid (gConvert (some ⟨s, 0, none⟩) A1 c1 g1 ws1 w.heap.size n (natOf xs) w w4 (HE3.out.trans' hE4) hv1 hn1 hN1 hl50 (HB3.out.ext hE4) (Nat.le_refl _) (fun _ => by have := HSZ3.out; rcases hg1 with rfl | h <;> omega) (fun _ => by have := HSZ3.out; rcases hg1 with rfl | h <;> omega) HEN.out.1 HNB.out.2 s 316 _ (HBS.out.ext hE4) (by decide) HSN.out)
    clear hv1 hn1 hN1 ho1 hg1 hE4 hl50
    go_wp2_with (fail)
    go_at_call 324
    refine HCV.out.mono ?_
    rintro e w5 ⟨rfl, hb5, hs5, hE5⟩
    have K1 := Lib.hid hb5; have K3 := Lib.hid hE5
    have st : w5.cell? ⟨s, 0, none⟩ = some (.pointer none) := (hs5.cell 0).trans rfl
    clear hb5 hs5 hE5
    go_wp2_with (fail)
    go_loop [7] (fun i => ∃ p k : Nat, i = .int .i64 (p : Int) ∧ n = p + (k + 1) ∧ natOf xs < 10 ^ (k + 1)) (fun i => match i with | .int _ z => (n - z).toNat | _ => 0)
    case atStart => exact ⟨0, n - 1, rfl, by have := HNB.out; omega, by rw [Nat.sub_add_cancel HNB.out.1]; exact HEN.out.1⟩
    case round =>
      obtain ⟨p, k, rfl, hpk, hNk⟩ := hrel
      have HPK := Lib.hid hpk; have HNK := Lib.hid hNk
      have cp : w5.cell? ⟨w.heap.size, p, none⟩ = some (bv (dgt (natOf xs) k)) := by
        rw [K1.out.cell]
        unfold dst
        rw [List.replicate_zero, List.nil_append, List.getElem?_map, dgN_get _ _ _ (by omega)]
        rw [show n - 1 - p = k by omega]; rfl
      have hpn : (p : Int) < (n : Int) := by omega
      have hpb : (p : Int) ≤ 1000 := by have := HNB.out; omega
      by_cases hd : dgt (natOf xs) k = 48
      · have cp2 : w5.cell? ⟨w.heap.size, p, none⟩ = some (.int .u8 48) := by rw [cp, hd]; rfl
        have HN2 := Lib.hid (dgt_eq_zero hNk hd)
        clear cp hd hpk hNk
        go_wp2
        go_round
        case rel =>
          have hk0 : k ≠ 0 := by
            intro h; subst h
            have := HN2.out; have := HPOS.out
            simp at *; omega
          exact ⟨p + 1, k - 1, by go_num, by have := HPK.out; omega, by rw [Nat.sub_add_cancel (by omega)]; exact HN2.out⟩
        case measure => have := HPK.out; first | (simp; done) | (simp; omega)
      · obtain ⟨d, hdd⟩ : ∃ d : Nat, d = (dgt (natOf xs) k).toNat := ⟨_, rfl⟩
        have hd48 : dgt (natOf xs) k ≠ 48 := hd
        have cp2 : w5.cell? ⟨w.heap.size, p, none⟩ = some (.int .u8 (d : Int)) := by rw [cp, hdd]; rfl
        have hne : ((d : Int) == 48) = false := by
          have : d ≠ 48 := by
            intro e; apply hd; apply UInt8.toNat_inj.1; rw [← hdd, e]; rfl
          simp; omega
        have HD48 := Lib.hid hd48
        clear cp hd hdd hd48 hpk hNk
        have HB5 := Lib.hid (bytes_from (p := p) (k := k) K1.out HPK.out HNK.out HD48.out)
        go_wp2
        refine leaves_cons (f := 263) (args := #[.pointer (some ⟨s, 0, none⟩)]) (by simp) (by simp [go_sem]) ?_
        refine (stackFree s .returning _ (by exact st)).mono ?_
        rintro e u' w'' ⟨rfl, rfl, rfl⟩
        refine ⟨_, results_tmp rfl _ _ _, ?_⟩
        refine ⟨w.heap.size, p, n - p, by rw [← HB5.out.1]; rfl, HB5.out.2, by rw [← HB5.out.1]; exact Nat.le_refl _, K3.out⟩
  · obtain ⟨n, hn⟩ : ∃ n, n = i0 + 1 + 1 := ⟨_, rfl⟩
    have hmk : ∀ W : World, (Instr.makeSlice 148 (.int .i64 ((i0 : Int) + 1 + 1)) (.int .i64 ((i0 : Int) + 1 + 1))).run Tryz.prog W = .ok (.slice (some ⟨W.heap.size, 0, none⟩) n n) (W.alloc (.cells (Array.replicate n (.int .u8 0)) 5)) := fun W => by
      rw [show (i0 : Int) + 1 + 1 = (n : Int) by omega]; exact byteMake n (by omega) W
    have HEN := Lib.hid (show natOf xs < 10 ^ n ∧ (true = true → natOf xs < 10 ^ (n - 1)) from ⟨Nat.lt_trans hen (Nat.pow_lt_pow_right (by omega) (by omega)), fun _ => by rw [hn, Nat.add_sub_cancel]; exact hen⟩)
    have hnb : 1 ≤ n ∧ n ≤ 1000 := by omega
    have HNB := Lib.hid hnb
    clear hbits hbl64 hbl hx hN hm hL hen hi0 hn hnb hM h1 h2 hcb hx0
    go_enter_defers Tryz.func290, Tryz.ntmps290
    go_upto_region 9 with (first | (go_at_call 319; (with_reducible refine HBL.out.mono ?_); rintro e w' ⟨rfl, hw⟩; obtain rfl := hw.symm) | (go_at_call 320; (with_reducible refine (mLog2 _).mono ?_); rintro e w' ⟨rfl, hw⟩; obtain rfl := hw.symm))
    obtain ⟨W1, hW1⟩ : ∃ W1, W1 = w.alloc (.cells (Array.replicate n (.int .u8 0)) 5) := ⟨_, rfl⟩
    rw [← hW1]
    have HB1 := Lib.hid (show Blk W1 w.heap.size 5 (List.replicate n (.int .u8 0)) by rw [hW1]; exact blkMake w n _ _)
    have HE1 := Lib.hid (show Ext w W1 ∧ W1.heap.size = w.heap.size + 1 by rw [hW1]; exact ⟨Ext.alloc' _ _, by simp⟩)
    clear hW1 hmk r1 r2 r3 q1
    go_wp2_with (fail)
    go_at_call 262
    refine (getStack_ W1).mono ?_
    rintro e w3 ⟨s, rfl, hbs, hE3⟩
    have HSN := Lib.hid (show s ≠ w.heap.size from (hbs.ne (HB1.out.ext hE3) (by decide)))
    have HBS := Lib.hid hbs; have HE3 := Lib.hid (HE1.out.1.trans' hE3); have HB3 := Lib.hid (HB1.out.ext hE3)
    have HSZ3 := Lib.hid (show w.heap.size < w3.heap.size by have := hE3.size; have := HE1.out.2; omega)
    clear hbs hE3
    have HDV := Lib.hid (gDivisors (some ⟨s, 0, none⟩) M 10 10000000000000000000 19 w3 HMM.out.2 (HLF.out.ext HE3.out))
    have HST := Lib.hid (gSet none 0 0 w3.heap.size [] B cb xs M w3 (NatV.nil _ _) (opd_old HX.out HE3.out (by rw [HM.out]; exact HCB.out) HE3.out.size) HM.out (by have := HMM.out; omega) HN.out)
    go_wp2_with (first | (go_at_call 322; (with_reducible refine (gMaxPow _).mono ?_); rintro e w' ⟨rfl, hw⟩; obtain rfl := hw.symm) | (go_at_call 323; (with_reducible refine HDV.out.mono ?_); rintro e w' ⟨rfl, hw⟩; obtain rfl := hw.symm) | fail)
    go_at_call 217
    refine HST.out.mono ?_
    rintro e w4 ⟨A1, c1, g1, ws1, rfl, hv1, hn1, hN1, ho1, hg1⟩
    have hE4 : Ext w3 w4 := Only.ext (Ext.refl _) ho1 (Nat.le_refl _)
    have hl50 : ws1.length ≤ 50 := by
      rcases Nat.lt_or_ge xs.length ws1.length with h | h
      · have h5 := natOf_lt_len hn1 HX.out.1 h
        omega
      · have := HM.out; have := HMM.out; omega
    have HCV := Lib.hid (gConvert (some ⟨s, 0, none⟩) A1 c1 g1 ws1 w.heap.size n (natOf xs) w w4 (HE3.out.trans' hE4) hv1 hn1 hN1 hl50 (HB3.out.ext hE4) (Nat.le_refl _) (fun _ => by have := HSZ3.out; rcases hg1 with rfl | h <;> omega) (fun _ => by have := HSZ3.out; rcases hg1 with rfl | h <;> omega) HEN.out.1 HNB.out.2 s 316 _ (HBS.out.ext hE4) (by decide) HSN.out)
    clear hv1 hn1 hN1 ho1 hg1 hE4 hl50
    go_wp2_with (fail)
    go_at_call 324
    refine HCV.out.mono ?_
    rintro e w5 ⟨rfl, hb5, hs5, hE5⟩
    have K1 := Lib.hid hb5; have K3 := Lib.hid hE5
    have st : w5.cell? ⟨s, 0, none⟩ = some (.pointer none) := (hs5.cell 0).trans rfl
    clear hb5 hs5 hE5
    go_wp2_with (fail)
    go_loop [7] (fun i => ∃ p k : Nat, i = .int .i64 (p : Int) ∧ n = p + (k + 1) ∧ natOf xs < 10 ^ (k + 1)) (fun i => match i with | .int _ z => (n - z).toNat | _ => 0)
    case atStart => exact ⟨0, n - 1, rfl, by have := HNB.out; omega, by rw [Nat.sub_add_cancel HNB.out.1]; exact HEN.out.1⟩
    case round =>
      obtain ⟨p, k, rfl, hpk, hNk⟩ := hrel
      have HPK := Lib.hid hpk; have HNK := Lib.hid hNk
      have cp : w5.cell? ⟨w.heap.size, p, none⟩ = some (bv (dgt (natOf xs) k)) := by
        rw [K1.out.cell]
        unfold dst
        rw [List.replicate_zero, List.nil_append, List.getElem?_map, dgN_get _ _ _ (by omega)]
        rw [show n - 1 - p = k by omega]; rfl
      have hpn : (p : Int) < (n : Int) := by omega
      have hpb : (p : Int) ≤ 1000 := by have := HNB.out; omega
      by_cases hd : dgt (natOf xs) k = 48
      · have cp2 : w5.cell? ⟨w.heap.size, p, none⟩ = some (.int .u8 48) := by rw [cp, hd]; rfl
        have HN2 := Lib.hid (dgt_eq_zero hNk hd)
        clear cp hd hpk hNk
        go_wp2
        go_round
        case rel =>
          have hk0 : k ≠ 0 := by
            intro h; subst h
            have := HN2.out; have := HPOS.out
            simp at *; omega
          exact ⟨p + 1, k - 1, by go_num, by have := HPK.out; omega, by rw [Nat.sub_add_cancel (by omega)]; exact HN2.out⟩
        case measure => have := HPK.out; first | (simp; done) | (simp; omega)
      · obtain ⟨d, hdd⟩ : ∃ d : Nat, d = (dgt (natOf xs) k).toNat := ⟨_, rfl⟩
        have hd48 : dgt (natOf xs) k ≠ 48 := hd
        have cp2 : w5.cell? ⟨w.heap.size, p, none⟩ = some (.int .u8 (d : Int)) := by rw [cp, hdd]; rfl
        have hne : ((d : Int) == 48) = false := by
          have : d ≠ 48 := by
            intro e; apply hd; apply UInt8.toNat_inj.1; rw [← hdd, e]; rfl
          simp; omega
        have HD48 := Lib.hid hd48
        clear cp hd hdd hd48 hpk hNk
        have hk1 : k + 1 ≤ n - 1 := by
          rcases Nat.lt_or_ge (n - 1) (k + 1) with h | h
          · exfalso
            exact HD48.out (dgt_zero (j := k) (Nat.lt_of_lt_of_le (HEN.out.2 trivial) (Nat.pow_le_pow_right (by omega) (by omega))))
          · exact h
        have hp1 : 1 ≤ p := by have := HPK.out; have := HNB.out; omega
        obtain ⟨p', rfl⟩ : ∃ p', p = p' + 1 := ⟨p - 1, by omega⟩
        have HB5 := Lib.hid (bytes_neg (p := p') (k := k) K1.out HPK.out HNK.out HD48.out)
        obtain ⟨old, hold⟩ : ∃ old, w5.cell? ⟨w.heap.size, p', none⟩ = some old := K1.out.old p' (by rw [dst_length]; omega)
        have hfz := K1.out.frozen p'
        have hpn' : (p' : Int) < (n : Int) := by omega
        have st2 : (w5.setCell ⟨w.heap.size, p', none⟩ (.int .u8 45)).cell? ⟨s, 0, none⟩ = some (.pointer none) := set_far st (by exact HSN.out)
        have HNP := Lib.hid (show (n : Int) - (p' : Int) = ((n - p' : Nat) : Int) by omega)
        clear hk1 hp1
        go_wp2
        refine leaves_cons (f := 263) (args := #[.pointer (some ⟨s, 0, none⟩)]) (by simp) (by simp [go_sem]) ?_
        refine (stackFree s .returning _ (by exact st2)).mono ?_
        rintro e u' w'' ⟨rfl, rfl, rfl⟩
        refine ⟨_, results_tmp rfl _ _ _, ?_⟩
        refine ⟨w.heap.size, p', n - p', by rw [← HB5.out.1]; rfl, HB5.out.2, by rw [← HB5.out.1]; exact Nat.le_refl _, Only.ext K3.out ((Only.refl _ _).set_ _ _) (Nat.le_refl _)⟩
end Go.Proofs.YtfafiahefjimdaaGreatDoor

namespace Go.Proofs.YtfafiahefjimdaaGreatDoor
open Go Go.RowKit

/-- Bytes as a text. -/
def strB (l : List UInt8) : ByteArray := ⟨l.toArray⟩
/-- A number in digits, a minus ahead of one below 0. -/
def decZ (z : Int) : List UInt8 := if z < 0 then 45 :: decL z.natAbs else decL z.natAbs

set_option maxRecDepth 100000 in
theorem gItoa0 (B : Option Addr) (cb : Nat) (w : World) :
    Calls Tryz.prog 290 #[.slice B 0 cb, .bool false, .int .i64 10] w (RetBytes (decL 0) w) := by
  have kc := fun (W : World) (C : Array Value) (n c : Nat) => Lib.run_convert_bytes_const (P := Tryz.prog) W 148 5 C n c Tryz.underlying148 Tryz.underlying5
  go_enter_defers Tryz.func290, Tryz.ntmps290
  go_wp2
  refine ⟨_, results_tmp rfl _ _ _, ?_⟩
  refine ⟨w.heap.size, 0, 1, by rw [decL_small (by omega)]; rfl, fun j hj => ?_, by rw [decL_small (by omega)]; exact Nat.le_refl _, Ext.alloc' _ _⟩
  have e : decL 0 = [48] := decL_small (by omega)
  simp only [e, List.length_cons, List.length_nil] at hj
  obtain rfl : j = 0 := by omega
  simp only [e]
  simp only [World.cell?, heap_alloc_new]
  rfl
set_option maxRecDepth 100000 in
theorem convBytes {w : World} {g o c : Nat} {l : List UInt8} (h : ∀ j (h : j < l.length), w.cell? ⟨g, o + j, none⟩ = some (bv l[j])) : (convert 148 9 (.slice (some ⟨g, o, none⟩) l.length c)).run Tryz.prog w = .ok (.string (strB l)) w := by
  have := run_convert_bytes_arg (P := Tryz.prog) w 148 5 Tryz.underlying148 Tryz.underlying5 g o l.length c (l.map fun b => (b.toNat : Int)) (by simp) (fun i hi => by rw [h i hi]; simp [bv, List.getD, hi]) 9 Tryz.underlying9
  rw [this]
  congr 2
  unfold strOfNums strB
  rw [List.map_map]
  congr 2
  exact (List.map_congr_left (fun b _ => by simp)).trans (List.map_id _)

theorem decZ_val (neg : Bool) (xs : List Nat) (h0 : xs ≠ []) (hN : Norm xs) : (if neg then [45] else []) ++ decL (natOf xs) = decZ (bigVal neg xs) := by
  have hp : 0 < natOf xs := by
    rcases Nat.eq_zero_or_pos (natOf xs) with h | h
    · exact absurd ((nil_iff hN).1 h) h0
    · exact h
  unfold decZ bigVal
  cases neg
  · simp only [Bool.false_eq_true, if_false, List.nil_append]
    rw [if_neg (by omega), Int.natAbs_natCast]
  · simp only [if_true, List.cons_append, List.nil_append]
    rw [if_pos (by omega), Int.natAbs_neg, Int.natAbs_natCast]
theorem decZ_len {z : Int} (hz : z.natAbs < B64 * B64) : (decZ z).length ≤ 41 := by
  have h1 : ndig z.natAbs ≤ 40 := ndig_le_of (Nat.lt_trans hz (by unfold B64; decide)) (by omega)
  have h2 := decL_length z.natAbs
  unfold decZ
  split
  · simp; omega
  · omega
theorem strB_size (l : List UInt8) : (strB l).size = l.length := by simp [strB, ByteArray.size]
set_option maxRecDepth 100000 in
set_option maxHeartbeats 1000000 in
theorem bText (b : Nat) (z : Int) (w : World) (h : BigAt w b z) (hz : z.natAbs < B64 * B64) (hL : Leaf w) : Calls Tryz.prog 248 #[.pointer (some ⟨b, 0, none⟩), .int .i64 10] w (RetE (.string (strB (decZ z))) w) := by
  obtain ⟨A, c, xs, neg, hbk, hw, hlc, hN, hnil, rfl⟩ := h
  obtain ⟨L, hLL⟩ : ∃ L, L = xs.length := ⟨_, rfl⟩
  have hL2 : L ≤ 2 := by
    rcases Nat.lt_or_ge 2 xs.length with h | h
    · have h2 := natOf_ge hN (xs.length - 1) (by omega)
      have h3 : B64 ^ 2 ≤ B64 ^ (xs.length - 1) := Nat.pow_le_pow_right B64_pos (by omega)
      have h4 : (bigVal neg xs).natAbs = natOf xs := by unfold bigVal; split <;> simp
      rw [h4] at hz
      rw [Nat.pow_two] at h3
      omega
    · omega
  have HD := Lib.hid (show ∀ W, Ext w W → Calls Tryz.prog 290 #[.slice A L c, .bool neg, .int .i64 10] W (RetBytes (decZ (bigVal neg xs)) W) by
    intro W e
    rcases Nat.eq_zero_or_pos L with h0 | h0
    · have hxs : xs = [] := List.eq_nil_of_length_eq_zero (by omega)
      have hn := hnil hxs
      subst hxs; subst hn; rw [h0]
      exact gItoa0 A c W
    · rw [← decZ_val neg xs (by intro e; subst e; simp at hLL; omega) hN]
      exact gItoa neg A c xs L W (hw.ext e) hN hLL.symm h0 hL2 (by omega) (hL.ext e))
  have c0 : w.cell? ⟨b, 0, none⟩ = some (.bool neg) := (hbk.cell 0).trans rfl
  have c1 : w.cell? ⟨b, 1, none⟩ = some (.slice A L c) := by rw [hLL]; exact (hbk.cell 1).trans rfl
  have hp : ∀ W : World, (binOp .eql 107 (.pointer (some ⟨b, 0, none⟩)) (.pointer none)).run Tryz.prog W = .ok (.bool false) W := fun _ => by kernel_rfl
  obtain ⟨s, hs⟩ : ∃ s, s = decZ (bigVal neg xs) := ⟨_, rfl⟩
  rw [← hs] at HD ⊢
  clear hbk hw hlc hN hnil hz hL hL2 hLL hs
  go_enter Tryz.func248, Tryz.ntmps248
  go_wp2
  go_region_law (first | (go_simp; go_at_call 290; refine (HD.out _ (by exact Ext.drewN' _ _)).mono ?_; rintro e w1 ⟨g, o, k, rfl, hcl, _, hE⟩; have hcv := convBytes (c := k) hcl; have HE := Lib.hid (show Ext w w1 by first | exact hE | exact Ext.undrew hE | exact Ext.undrewN hE); clear hE hcl))
  all_goals go_wp2
  all_goals go_ret
  all_goals exact ⟨rfl, HE.out⟩
set_option maxRecDepth 100000 in
theorem bString (b : Nat) (z : Int) (w : World) (h : BigAt w b z) (hz : z.natAbs < B64 * B64) (hL : Leaf w) : Calls Tryz.prog 201 #[.pointer (some ⟨b, 0, none⟩)] w (RetE (.string (strB (decZ z))) w) := by
  have H := Lib.hid (bText b z w h hz hL)
  clear h hz hL
  go_enter Tryz.func201, Tryz.ntmps201
  go_wp2_with (go_at_call 248; refine H.out.mono ?_; rintro e w1 ⟨rfl, hE⟩; have HE := Lib.hid hE; clear hE)
  go_ret
  exact ⟨rfl, HE.out⟩
set_option maxRecDepth 100000 in
theorem mString (b : Nat) (z : Int) (w : World) (h : BigAt w b z) (hz : z.natAbs < B64 * B64) (hL : Leaf w) : Calls Tryz.prog 156 #[.agg #[.pointer (some ⟨b, 0, none⟩)]] w (RetE (.string (strB (decZ z))) w) := by
  have H := Lib.hid (bString b z _ (h.ext (ext1 w (intBox b))) hz (hL.ext (ext1 w (intBox b))))
  clear h hz hL
  go_enter Tryz.func156, Tryz.ntmps156
  go_wp2_with (go_at_call 201; refine H.out.mono ?_; rintro e w1 ⟨rfl, hE⟩; have HE := Lib.hid hE; clear hE)
  go_ret
  exact ⟨rfl, (ext1 _ _).trans' HE.out⟩
set_option maxRecDepth 100000 in
theorem tString (s : ByteArray) (b : Nat) (z : Int) (w : World) (h : BigAt w b z) (hz : z.natAbs < B64 * B64) (hL : Leaf w) (hs : s.size ≤ 4611686018427387904) : Calls Tryz.prog 101 #[coinV s b] w (RetE (.string (strB (decZ z) ++ s)) w) := by
  have H := Lib.hid (fun W (e : Ext w W) => mString b z W (h.ext e) hz (hL.ext e))
  have hsz : ¬ 9223372036854775807 < (strB (decZ z)).size + s.size := by have := decZ_len hz; have := strB_size (decZ z); omega
  have K := Lib.hid (blk_new0 w 152 [.string s, .pointer (some ⟨b, 0, none⟩)])
  clear h hz hL hs
  obtain ⟨W, hW⟩ : ∃ W, W = w.alloc (coinBox s b) := ⟨_, rfl⟩
  have c0 : W.cell? ⟨w.heap.size, 0, none⟩ = some (.string s) := by rw [hW]; exact (K.out.cell 0).trans rfl
  have c1 : W.cell? ⟨w.heap.size, 1, none⟩ = some (.pointer (some ⟨b, 0, none⟩)) := by rw [hW]; exact (K.out.cell 1).trans rfl
  have HK := Lib.hid (show Blk W w.heap.size 152 [.string s, .pointer (some ⟨b, 0, none⟩)] by rw [hW]; exact K.out)
  have EW := Lib.hid (show Ext w W by rw [hW]; exact ext1 _ _)
  have HWW := Lib.hid hW; clear hW K
  go_enter Tryz.func101, Tryz.ntmps101
  go_upto_region 1 with fail
  rw [← HWW.out]
  go_region_law (first | (go_simp; go_at_call 156; refine (H.out _ (by first | exact EW.out.trans' (Ext.drewN' _ _) | exact EW.out)).mono ?_; rintro e w1 ⟨rfl, hE⟩; have HE := Lib.hid (show Ext W w1 by first | exact hE | exact Ext.undrew hE | exact Ext.undrewN hE); have d0 : w1.cell? ⟨w.heap.size, 0, none⟩ = some (.string s) := ((HK.out.ext HE.out).cell 0).trans rfl; clear hE))
  all_goals go_wp2
  all_goals go_ret
  all_goals exact ⟨rfl, EW.out.trans' HE.out⟩
end Go.Proofs.YtfafiahefjimdaaGreatDoor
