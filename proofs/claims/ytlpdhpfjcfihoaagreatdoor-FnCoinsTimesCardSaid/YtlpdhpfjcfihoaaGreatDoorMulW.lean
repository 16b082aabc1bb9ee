/-
  The contracts of bits.Mul, bits.LeadingZeros (off the shelf), of bigall's mulWW, mulAddWWW and nlz.
-/
import Derived.Test.YtlpdhpfjcfihoaaGreatDoorWB
import Derived.Test.YtlpdhpfjcfihoaaGreatDoorGA
import Derived.Shelf.Bits.Mul64
import Derived.Shelf.Small.Bits
import Derived.Tactics
namespace Go.Proofs.YtlpdhpfjcfihoaaGreatDoor
open Go Go.RowKit Go.Shelf

def renM : Ren where
  f := fun n => if n = 212 then 285 else if n = 263 then 298 else 147
  t := fun n => if n = 46 then 171 else if n = 51 then 214 else if n = 53 then 51 else if n = 146 then 262 else 164
  g := fun n => n
theorem laysM : Lays.n212 Tryz.prog renM where
  mixed := by kernel_rfl
  f212 := by kernel_rfl
  f263 := by kernel_rfl
  f264 := by kernel_rfl
  t46 := by kernel_rfl
  a46 := by intro w; kernel_rfl
  z46 := by intro w; kernel_rfl
  v46 := by intro w; kernel_rfl
  t51 := by kernel_rfl
  a51 := by intro w; kernel_rfl
  z51 := by intro w; kernel_rfl
  v51 := by intro w; kernel_rfl
  t53 := by kernel_rfl
  a53 := by intro w; kernel_rfl
  z53 := by intro w; kernel_rfl
  v53 := by intro w; kernel_rfl
  t146 := by kernel_rfl
  a146 := by intro w; kernel_rfl
  z146 := by intro w; kernel_rfl
  v146 := by intro w; kernel_rfl
  t148 := by kernel_rfl
  a148 := by intro w; kernel_rfl
  z148 := by intro w; kernel_rfl
  v148 := by intro w; kernel_rfl
def renLZ : Ren where
  f := fun n => if n = 125 then 185 else if n = 128 then 220 else if n = 129 then 221 else 274
  t := fun n => if n = 3 then 3 else if n = 4 then 4 else if n = 5 then 5 else if n = 9 then 9 else if n = 46 then 171 else if n = 51 then 214 else 51
  g := fun n => n
theorem laysLZ : Lays.n130 Tryz.prog renLZ where
  mixed := by kernel_rfl
  f125 := by kernel_rfl
  f128 := by kernel_rfl
  f129 := by kernel_rfl
  f130 := by kernel_rfl
  t3 := by kernel_rfl
  a3 := by intro w; kernel_rfl
  z3 := by intro w; kernel_rfl
  v3 := by intro w; kernel_rfl
  t4 := by kernel_rfl
  a4 := by intro w; kernel_rfl
  z4 := by intro w; kernel_rfl
  v4 := by intro w; kernel_rfl
  t5 := by kernel_rfl
  a5 := by intro w; kernel_rfl
  z5 := by intro w; kernel_rfl
  v5 := by intro w; kernel_rfl
  t9 := by kernel_rfl
  a9 := by intro w; kernel_rfl
  z9 := by intro w; kernel_rfl
  v9 := by intro w; kernel_rfl
  t46 := by kernel_rfl
  a46 := by intro w; kernel_rfl
  z46 := by intro w; kernel_rfl
  v46 := by intro w; kernel_rfl
  t51 := by kernel_rfl
  a51 := by intro w; kernel_rfl
  z51 := by intro w; kernel_rfl
  v51 := by intro w; kernel_rfl
  t53 := by kernel_rfl
  a53 := by intro w; kernel_rfl
  z53 := by intro w; kernel_rfl
  v53 := by intro w; kernel_rfl
def renLZ64 : Ren where
  f := fun n => if n = 129 then 221 else 303
  t := fun n => if n = 3 then 3 else if n = 4 then 4 else if n = 5 then 5 else if n = 9 then 9 else if n = 46 then 171 else 51
  g := fun n => n
theorem laysLZ64 : Lays.n134 Tryz.prog renLZ64 where
  mixed := by kernel_rfl
  f129 := by kernel_rfl
  f134 := by kernel_rfl
  t3 := by kernel_rfl
  a3 := by intro w; kernel_rfl
  z3 := by intro w; kernel_rfl
  v3 := by intro w; kernel_rfl
  t4 := by kernel_rfl
  a4 := by intro w; kernel_rfl
  z4 := by intro w; kernel_rfl
  v4 := by intro w; kernel_rfl
  t5 := by kernel_rfl
  a5 := by intro w; kernel_rfl
  z5 := by intro w; kernel_rfl
  v5 := by intro w; kernel_rfl
  t9 := by kernel_rfl
  a9 := by intro w; kernel_rfl
  z9 := by intro w; kernel_rfl
  v9 := by intro w; kernel_rfl
  t46 := by kernel_rfl
  a46 := by intro w; kernel_rfl
  z46 := by intro w; kernel_rfl
  v46 := by intro w; kernel_rfl
  t53 := by kernel_rfl
  a53 := by intro w; kernel_rfl
  z53 := by intro w; kernel_rfl
  v53 := by intro w; kernel_rfl

theorem bMul (x y : Nat) (hx : x < B64) (hy : y < B64) (w : World) : Calls Tryz.prog 285 #[.int .u64 x, .int .u64 y] w fun e w' => e = .returned (.tuple #[.int .u64 ((x * y / B64 : Nat) : Int), .int .u64 ((x * y % B64 : Nat) : Int)]) ∧ w' = w :=
  Any.bits_Mul laysM x y hx hy w
theorem bLeadZ (x : Nat) (w : World) (h : x < B64) : Calls Tryz.prog 274 #[.int .u64 x] w fun e w' => e = .returned (.int .i64 (64 - (Lib.bitLen x : Int))) ∧ w' = w := by
  have := Any.bits_LeadingZeros laysLZ x w (by omega) (by unfold B64 at h; omega)
  rwa [Int.toNat_natCast] at this
theorem bLeadZ64 (x : Nat) (w : World) (h : x < B64) : Calls Tryz.prog 303 #[.int .u64 x] w fun e w' => e = .returned (.int .i64 (64 - (Lib.bitLen x : Int))) ∧ w' = w := by
  have := Any.bits_LeadingZeros64 laysLZ64 x w (by omega) (by unfold B64 at h; omega)
  rwa [Int.toNat_natCast] at this

set_option maxRecDepth 100000 in
theorem gMulWW (x y : Nat) (hx : x < B64) (hy : y < B64) (w : World) : Calls Tryz.prog 246 #[.int .u64 x, .int .u64 y] w fun e w' => e = .returned (.tuple #[.int .u64 ((x * y / B64 : Nat) : Int), .int .u64 ((x * y % B64 : Nat) : Int)]) ∧ w' = w := by
  have H := Lib.hid (bMul x y hx hy w)
  generalize x * y / B64 = a, x * y % B64 = b at H ⊢
  clear hx hy
  go_enter Tryz.func246, Tryz.ntmps246
  go_wp2_with (go_at_call 285; refine H.out.mono ?_; rintro e w' ⟨rfl, rfl⟩)
  go_ret2
  exact ⟨rfl, rfl⟩
theorem mul_hi (x y c : Nat) (hx : x < B64) (hy : y < B64) (hc : c < B64) : x * y / B64 + (x * y % B64 + c) / B64 = (x * y + c) / B64 ∧ (x * y % B64 + c) % B64 = (x * y + c) % B64 ∧ (x * y + c) / B64 < B64 := by
  have h1 : x * y ≤ (B64 - 1) * (B64 - 1) := Nat.mul_le_mul (by omega) (by omega)
  obtain ⟨p, hp⟩ : ∃ p, p = x * y := ⟨_, rfl⟩
  rw [← hp] at h1 ⊢
  unfold B64 at *
  omega
set_option maxRecDepth 100000 in
theorem gMulAddWWW (x y c : Nat) (hx : x < B64) (hy : y < B64) (hc : c < B64) (w : World) : Calls Tryz.prog 304 #[.int .u64 x, .int .u64 y, .int .u64 c] w fun e w' => e = .returned (.tuple #[.int .u64 (((x * y + c) / B64 : Nat) : Int), .int .u64 (((x * y + c) % B64 : Nat) : Int)]) ∧ w' = w := by
  have H := Lib.hid (bMul x y hx hy w)
  have HM := Lib.hid (mul_hi x y c hx hy hc)
  obtain ⟨a, ha⟩ : ∃ a, a = x * y / B64 := ⟨_, rfl⟩
  obtain ⟨b, hb⟩ : ∃ b, b = x * y % B64 := ⟨_, rfl⟩
  rw [← ha, ← hb] at H HM
  have HA := Lib.hid (bitsAdd b c 0 (by omega) w)
  obtain ⟨p, hp⟩ : ∃ p, p = (x * y + c) / B64 := ⟨_, rfl⟩
  obtain ⟨q, hq⟩ : ∃ q, q = (x * y + c) % B64 := ⟨_, rfl⟩
  rw [← hp, ← hq] at HM ⊢
  rw [Nat.add_zero] at HA
  obtain ⟨k, hk⟩ : ∃ k, k = (b + c) / B64 := ⟨_, rfl⟩
  rw [← hk, HM.out.2.1] at HA
  have HP := Lib.hid (show a + k = p ∧ p < B64 by have := HM.out; rw [← hk] at this; exact ⟨this.1, this.2.2⟩)
  have HP1 : (a : Int) + (k : Int) ≤ 18446744073709551615 := by have := HP.out; unfold B64 at this; omega
  clear hx hy hc ha hb hp hq hk HM
  go_enter Tryz.func304, Tryz.ntmps304
  go_wp2_with (first | (go_at_call 285; refine H.out.mono ?_; rintro e w' ⟨rfl, rfl⟩) | (go_at_call 254; refine HA.out.mono ?_; rintro e w' ⟨rfl, rfl⟩))
  go_ret2
  exact ⟨by rw [← HP.out.1]; rfl, rfl⟩
set_option maxRecDepth 100000 in
theorem gNlz (x : Nat) (h : x < B64) (w : World) : Calls Tryz.prog 238 #[.int .u64 x] w fun e w' => e = .returned (.int .u64 ((64 - Lib.bitLen x : Nat) : Int)) ∧ w' = w := by
  have hb : Lib.bitLen x ≤ 64 := Lib.bitLen_le x 64 (Nat.le_refl _) (by unfold B64 at h; omega)
  have H := Lib.hid (bLeadZ x w h)
  generalize Lib.bitLen x = l at hb H ⊢
  clear h
  go_enter Tryz.func238, Tryz.ntmps238
  go_wp2_with (go_at_call 274; refine H.out.mono ?_; rintro e w' ⟨rfl, rfl⟩)
  go_ret
  exact ⟨by rw [show ((64 - l : Nat) : Int) = 64 - (l : Int) by omega]; rfl, rfl⟩
end Go.Proofs.YtlpdhpfjcfihoaaGreatDoor
