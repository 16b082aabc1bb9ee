/-
  Contracts of cosmosmath.Int's methods that read, for numbers of at most one word.
-/
import Derived.Test.YtagfbefgcijegaaDoorRead
import Derived.Handy
namespace Go.Proofs.YtagfbefgcijegaaDoor
open Go Go.RowKit

/-- A value handed back; nothing that was there has turned. -/
def RetE (v : Value) (w : World) (e : Ending) (w' : World) : Prop := e = .returned v ∧ Ext w w'
/-- An Int handed back. -/
def RetInt (z : Int) (w : World) (e : Ending) (w' : World) : Prop := ∃ b, e = .returned (.agg #[.pointer (some ⟨b, 0, none⟩)]) ∧ BigAt w' b z ∧ Ext w w'

/-- A box of an Int. -/
abbrev intBox (b : Nat) : Obj := .cells #[.pointer (some ⟨b, 0, none⟩)] 53

set_option maxRecDepth 100000 in
theorem mNewInt (x : Int) (w : World) (h0 : -maxI ≤ x) (h1 : x ≤ maxI) : Calls Tryd.prog 36 #[.int .i64 x] w (RetInt x w) := by
  unfold maxI at h0 h1
  have nb := Lib.hid (Blk.new w 53 [.pointer none])
  go_enter Tryd.func36, Tryd.ntmps36
  go_wp2_with (go_at_call 45; refine (newInt x _ h0 h1).mono ?_; rintro e w' ⟨v, rfl, ⟨b, rfl, hB⟩, hE⟩; have HB := Lib.hid hB; have b1 := Lib.hid (nb.out.ext hE); have HE := Lib.hid hE; clear hB hE; have c0 : w'.cell? ⟨w.heap.size, 0, none⟩ = some (.pointer none) := (b1.out.cell 0).trans rfl; have fz := b1.out.frozen 0)
  exact bodyPost_ret (v := .agg #[.pointer (some ⟨b, 0, none⟩)]) (by simp [results, Tryd.results36, go_sem, c0]) rfl ⟨b, rfl, HB.out.set_ b1.out 0 _, Only.ext ((Ext.alloc' _ _).trans' HE.out) ((Only.refl _ _).set_ 0 _) (Nat.le_refl _)⟩

set_option maxRecDepth 100000 in
theorem mIsNil (b : Nat) (z : Int) (w : World) (_ : BigAt w b z) : Calls Tryd.prog 58 #[.agg #[.pointer (some ⟨b, 0, none⟩)]] w (RetE (.bool false) w) := by
  have hp : ∀ W : World, (binOp .eql 51 (.pointer (some ⟨b, 0, none⟩)) (.pointer none)).run Tryd.prog W = .ok (.bool false) W := fun _ => by kernel_rfl
  go_enter Tryd.func58, Tryd.ntmps58
  go_wp2
  go_ret
  exact ⟨rfl, Ext.alloc' _ _⟩

set_option maxRecDepth 100000 in
theorem mIsInt64 (b : Nat) (z : Int) (w : World) (h : BigAt w b z) (h0 : -maxI ≤ z) (h1 : z ≤ maxI) : Calls Tryd.prog 34 #[.agg #[.pointer (some ⟨b, 0, none⟩)]] w (RetE (.bool true) w) := by
  have H := Lib.hid h; clear h
  go_enter Tryd.func34, Tryd.ntmps34
  go_wp2_with (go_at_call 43; refine (intIsInt64 _ z _ (by exact (H.out.ext (Ext.alloc' _ _)).big) h0 h1).mono ?_; rintro e w' ⟨rfl, rfl⟩)
  go_ret
  exact ⟨rfl, Ext.alloc' _ _⟩

set_option maxRecDepth 100000 in
theorem mInt64 (b : Nat) (z : Int) (w : World) (h : BigAt w b z) (h0 : -maxI ≤ z) (h1 : z ≤ maxI) : Calls Tryd.prog 35 #[.agg #[.pointer (some ⟨b, 0, none⟩)]] w (RetE (.int .i64 z) w) := by
  have H := Lib.hid h; clear h
  go_enter Tryd.func35, Tryd.ntmps35
  go_wp2_with (first | (go_at_call 43; refine (intIsInt64 _ z _ (by exact (H.out.ext (Ext.alloc' _ _)).big) h0 h1).mono ?_; rintro e w' ⟨rfl, rfl⟩) | (go_at_call 44; refine (intInt64 _ z _ (by exact (H.out.ext (Ext.alloc' _ _)).big) h0 h1).mono ?_; rintro e w' ⟨rfl, rfl⟩))
  go_ret
  exact ⟨rfl, Ext.alloc' _ _⟩

set_option maxRecDepth 100000 in
theorem mIsZero (b : Nat) (z : Int) (w : World) (h : BigAt w b z) : Calls Tryd.prog 57 #[.agg #[.pointer (some ⟨b, 0, none⟩)]] w (RetE (.bool (sgn z == 0)) w) := by
  have H := Lib.hid h; clear h
  go_enter Tryd.func57, Tryd.ntmps57
  go_wp2_with (go_at_call 67; refine (intSign _ z _ (by exact (H.out.ext (Ext.alloc' _ _)).big)).mono ?_; rintro e w' ⟨rfl, rfl⟩)
  go_ret
  exact ⟨rfl, Ext.alloc' _ _⟩

end Go.Proofs.YtagfbefgcijegaaDoor
