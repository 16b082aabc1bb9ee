/-
  NewInt of a number from 0 up: the big integer lies in a new block.
-/
import Derived.Test.YtlpdhpfjcfihoaaGreatDoorGA
namespace Go.Proofs.YtlpdhpfjcfihoaaGreatDoor
open Go Go.RowKit

/-- A new big integer handed back. -/
def RetNewP (z : Int) (w : World) (e : Ending) (w' : World) : Prop := ∃ b, e = .returned (.pointer (some ⟨b, 0, none⟩)) ∧ BigAt w' b z ∧ Ext w w' ∧ w.heap.size ≤ b
def RetNewI (z : Int) (w : World) (e : Ending) (w' : World) : Prop := ∃ b, e = .returned (.agg #[.pointer (some ⟨b, 0, none⟩)]) ∧ BigAt w' b z ∧ Ext w w' ∧ w.heap.size ≤ b
theorem big_at {w : World} {b : Nat} {z : Int} (h : IsBig w (.pointer (some ⟨b, 0, none⟩)) z) : BigAt w b z := by
  obtain ⟨b', e, h⟩ := h
  injection e with e; injection e with e; injection e with e
  subst e; exact h

set_option maxRecDepth 100000 in
theorem newZeroF (w : World) : Calls Tryz.prog 114 #[.int .i64 0] w (RetNewP 0 w) := by
  go_enter Tryz.func114, Tryz.ntmps114
  go_wp2
  go_ret
  exact ⟨_, rfl, big_at (isBig_zero _ _ _), Ext.alloc' _ _, Nat.le_refl _⟩
set_option maxRecDepth 100000 in
theorem newPosF (x : Nat) (w : World) (h0 : 0 < x) (h1 : x ≤ 9223372036854775807) : Calls Tryz.prog 114 #[.int .i64 (x : Int)] w (RetNewP x w) := by
  have e : ((x : Int) == 0) = false := by simp; omega
  have e' : decide ((x : Int) < 0) = false := by simp
  have H := isBig_one w x false (by unfold B64; omega) (by omega)
  go_enter Tryz.func114, Tryz.ntmps114
  go_wp2
  go_ret
  exact ⟨_, rfl, big_at (by simpa [bigVal, natOf_one] using H), (Ext.alloc' _ _).trans' (Ext.alloc' _ _), by simp⟩
theorem newIntF (x : Int) (w : World) (h0 : 0 ≤ x) (h1 : x ≤ 9223372036854775807) : Calls Tryz.prog 114 #[.int .i64 x] w (RetNewP x w) := by
  obtain ⟨n, rfl⟩ : ∃ n : Nat, x = n := ⟨x.toNat, by omega⟩
  rcases Nat.eq_zero_or_pos n with rfl | h
  · exact newZeroF w
  · exact newPosF n w h (by omega)

set_option maxRecDepth 100000 in
theorem mNewIntF (x : Int) (w : World) (h0 : 0 ≤ x) (h1 : x ≤ maxI) : Calls Tryz.prog 67 #[.int .i64 x] w (RetNewI x w) := by
  unfold maxI at h1
  have nb := Lib.hid (Blk.new w 98 [.pointer none])
  go_enter Tryz.func67, Tryz.ntmps67
  go_wp2_with (go_at_call 114; refine (newIntF x _ h0 h1).mono ?_; rintro e w' ⟨b, rfl, hB, hE, hf⟩; have HF := Lib.hid hf; have HB := Lib.hid hB; have b1 := Lib.hid (nb.out.ext hE); have HE := Lib.hid hE; clear hB hE hf; have c0 : w'.cell? ⟨w.heap.size, 0, none⟩ = some (.pointer none) := (b1.out.cell 0).trans rfl; have fz := b1.out.frozen 0)
  exact bodyPost_ret (v := .agg #[.pointer (some ⟨b, 0, none⟩)]) (by simp [results, Tryz.results67, go_sem, c0]) rfl ⟨b, rfl, HB.out.set_ b1.out 0 _, Only.ext ((Ext.alloc' _ _).trans' HE.out) ((Only.refl _ _).set_ 0 _) (Nat.le_refl _), Nat.le_trans (by simp) HF.out⟩
end Go.Proofs.YtlpdhpfjcfihoaaGreatDoor
