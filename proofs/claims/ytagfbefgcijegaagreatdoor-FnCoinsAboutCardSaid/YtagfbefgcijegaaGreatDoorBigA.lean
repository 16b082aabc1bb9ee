/-
  Contracts of bigall's small functions: NewInt, Sign, make.
-/
import Derived.Test.YtagfbefgcijegaaGreatDoorChecked
import Derived.Test.YtagfbefgcijegaaGreatDoorMem
import Derived.WalkKit
import Derived.WalkLawsBesides
import Derived.WalkSpells
import Derived.Outline
namespace Go.Proofs.YtagfbefgcijegaaGreatDoor
open Go Go.RowKit

/-- A call returned a pointer to a big integer; nothing that was there has turned. -/
def RetBig (z : Int) (w : World) (e : Ending) (w' : World) : Prop := ∃ v, e = .returned v ∧ IsBig w' v z ∧ Ext w w'

theorem u64_neg (x : Int) (h0 : x < 0) (h1 : -9223372036854775807 ≤ x) : IntKind.u64.wrap (-IntKind.u64.wrap x) = -x := by
  simp only [IntKind.wrap_u64]; omega

set_option maxRecDepth 100000 in
theorem newInt_zero (w : World) : Calls Tryz.prog 139 #[.int .i64 0] w (RetBig 0 w) := by
  go_enter Tryz.func139, Tryz.ntmps139
  go_wp2
  go_ret
  exact ⟨_, rfl, isBig_zero _ _ _, Ext.alloc' _ _⟩
set_option maxRecDepth 100000 in
theorem newInt_pos (x : Nat) (w : World) (h0 : 0 < x) (h1 : x ≤ 9223372036854775807) : Calls Tryz.prog 139 #[.int .i64 (x : Int)] w (RetBig x w) := by
  have e : ((x : Int) == 0) = false := by simp; omega
  have e' : decide ((x : Int) < 0) = false := by simp
  have H := isBig_one w x false (by unfold B64; omega) (by omega)
  go_enter Tryz.func139, Tryz.ntmps139
  go_wp2
  go_ret
  exact ⟨_, rfl, by simpa [bigVal, natOf_one] using H, (Ext.alloc' _ _).trans' (Ext.alloc' _ _)⟩
set_option maxRecDepth 100000 in
theorem newInt_neg (x : Nat) (w : World) (h0 : 0 < x) (h1 : x ≤ 9223372036854775807) : Calls Tryz.prog 139 #[.int .i64 (-(x : Int))] w (RetBig (-(x : Int)) w) := by
  have e : (-(x : Int) == 0) = false := by simp; omega
  have e' : decide (-(x : Int) < 0) = true := by simp; omega
  have E := Lib.hid (u64_neg (-(x : Int)) (by omega) (by omega))
  have H := Lib.hid (isBig_one w x true (by unfold B64; omega) (by omega))
  go_enter Tryz.func139, Tryz.ntmps139
  go_wp2
  go_ret
  refine ⟨_, rfl, ?_, (Ext.alloc' _ _).trans' (Ext.alloc' _ _)⟩
  rw [E.out, Int.neg_neg]
  simpa [bigVal, natOf_one] using H.out
theorem newInt (x : Int) (w : World) (h0 : -9223372036854775807 ≤ x) (h1 : x ≤ 9223372036854775807) : Calls Tryz.prog 139 #[.int .i64 x] w (RetBig x w) := by
  rcases Int.lt_trichotomy x 0 with h | rfl | h
  · obtain ⟨n, rfl⟩ : ∃ n : Nat, x = -(n : Int) := ⟨(-x).toNat, by omega⟩
    exact newInt_neg n w (by omega) (by omega)
  · exact newInt_zero w
  · obtain ⟨n, rfl⟩ : ∃ n : Nat, x = n := ⟨x.toNat, by omega⟩
    exact newInt_pos n w (by omega) (by omega)
end Go.Proofs.YtagfbefgcijegaaGreatDoor
