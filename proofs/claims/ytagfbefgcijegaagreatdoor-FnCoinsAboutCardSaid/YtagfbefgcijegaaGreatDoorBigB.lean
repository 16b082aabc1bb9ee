/-
  Contracts of bits.Add and bits.Sub.
-/
import Derived.Test.YtagfbefgcijegaaGreatDoorChecked
import Derived.Test.YtagfbefgcijegaaGreatDoorMem
import Derived.WalkKit
import Derived.WalkLawsBesides
import Derived.WalkSpells
import Derived.Laws.Externs
import Derived.Outline
namespace Go.Proofs.YtagfbefgcijegaaGreatDoor
open Go Go.RowKit

theorem add64_run (x y c : Nat) (hc : c ≤ 1) (w : World) : (callFunc 230 #[.int .u64 x, .int .u64 y, .int .u64 c]).run Tryz.prog w =
      .ok (.value (.tuple #[.int .u64 (((x + y + c) % B64 : Nat) : Int), .int .u64 (((x + y + c) / B64 : Nat) : Int)])) w := by
  rw [run_callFunc_extern Tryz.func230 (by kernel_rfl) (by kernel_rfl) (by kernel_rfl) (e := add64Entry) (by kernel_rfl), run_add64 x y c (by omega) (by omega) (by omega) (by omega)]
  simp only [Result.andThen]
  congr 5 <;> (unfold B64; omega)

def sub64E : Array Value → Sem Value := fun args => do
  let (x, y, b) ← Extern.MathBitsCarry.three "Sub64" args
  pure (Extern.MathBitsCarry.pair ((x + Extern.MathBitsCarry.m64 - y - b) % Extern.MathBitsCarry.m64) (if x < y + b then 1 else 0))

theorem sub64E_run {P : Program} (x y b : Nat) (hb : b ≤ 1) (w : World) :
    (sub64E #[.int .u64 x, .int .u64 y, .int .u64 b]).run P w =
      .ok (.tuple #[.int .u64 (((x + B64 - y - b) % B64 : Nat) : Int), .int .u64 ((if x < y + b then 1 else 0 : Nat) : Int)]) w := by
  have : b = 0 ∨ b = 1 := by omega
  rcases this with rfl | rfl <;> rfl

theorem sub64_run (x y b : Nat) (hb : b ≤ 1) (w : World) : (callFunc 232 #[.int .u64 x, .int .u64 y, .int .u64 b]).run Tryz.prog w =
      .ok (.value (.tuple #[.int .u64 (((x + B64 - y - b) % B64 : Nat) : Int), .int .u64 ((if x < y + b then 1 else 0 : Nat) : Int)])) w := by
  rw [run_callFunc_extern Tryz.func232 (by kernel_rfl) (by kernel_rfl) (by kernel_rfl) (e := sub64E) (by kernel_rfl), sub64E_run x y b hb]
  rfl

set_option maxRecDepth 100000 in
theorem bitsAdd (x y c : Nat) (hc : c ≤ 1) (w : World) : Calls Tryz.prog 219 #[.int .u64 x, .int .u64 y, .int .u64 c] w fun e w' =>
    e = .returned (.tuple #[.int .u64 (((x + y + c) % B64 : Nat) : Int), .int .u64 (((x + y + c) / B64 : Nat) : Int)]) ∧ w' = w := by
  have H := fun w => add64_run x y c hc w
  go_enter Tryz.func219, Tryz.ntmps219
  go_wp2
  go_ret2
  exact ⟨rfl, rfl⟩
set_option maxRecDepth 100000 in
theorem bitsSub (x y c : Nat) (hc : c ≤ 1) (w : World) : Calls Tryz.prog 221 #[.int .u64 x, .int .u64 y, .int .u64 c] w fun e w' =>
    e = .returned (.tuple #[.int .u64 (((x + B64 - y - c) % B64 : Nat) : Int), .int .u64 ((if x < y + c then 1 else 0 : Nat) : Int)]) ∧ w' = w := by
  obtain ⟨d, hd⟩ : ∃ d, d = (x + B64 - y - c) % B64 := ⟨_, rfl⟩
  obtain ⟨b, hb⟩ : ∃ b : Nat, b = (if x < y + c then 1 else 0) := ⟨_, rfl⟩
  have H := fun w => sub64_run x y c hc w
  rw [← hd, ← hb]
  rw [← hd, ← hb] at H
  have hd' := Lib.hid hd; have hb' := Lib.hid hb; clear hd hb
  go_enter Tryz.func221, Tryz.ntmps221
  go_wp2
  go_ret2
  exact ⟨rfl, rfl⟩
end Go.Proofs.YtagfbefgcijegaaGreatDoor
