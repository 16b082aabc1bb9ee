/-
  Contracts of cosmosmath.Int's methods that read, for numbers of at most one word.
-/
import Derived.Test.YtagfbefgcijegaaGreatDoorRead
import Derived.Handy
namespace Go.Proofs.YtagfbefgcijegaaGreatDoor
open Go Go.RowKit

/-- A value handed back; nothing that was there has turned. -/
def RetE (v : Value) (w : World) (e : Ending) (w' : World) : Prop := e = .returned v ∧ Ext w w'
/-- An Int handed back. -/
def RetInt (z : Int) (w : World) (e : Ending) (w' : World) : Prop := ∃ b, e = .returned (.agg #[.pointer (some ⟨b, 0, none⟩)]) ∧ BigAt w' b z ∧ Ext w w'

/-- A box of an Int. -/
abbrev intBox (b : Nat) : Obj := .cells #[.pointer (some ⟨b, 0, none⟩)] 79

set_option maxRecDepth 100000 in
theorem mNewInt (x : Int) (w : World) (h0 : -maxI ≤ x) (h1 : x ≤ maxI) : Calls Tryz.prog 93 #[.int .i64 x] w (RetInt x w) := by
  unfold maxI at h0 h1
  have nb := Lib.hid (Blk.new w 79 [.pointer none])
  go_enter Tryz.func93, Tryz.ntmps93
  go_wp2_with (go_at_call 139; refine (newInt x _ h0 h1).mono ?_; rintro e w' ⟨v, rfl, ⟨b, rfl, hB⟩, hE⟩; have HB := Lib.hid hB; have b1 := Lib.hid (nb.out.ext hE); have HE := Lib.hid hE; clear hB hE; have c0 : w'.cell? ⟨w.heap.size, 0, none⟩ = some (.pointer none) := (b1.out.cell 0).trans rfl; have fz := b1.out.frozen 0)
  exact bodyPost_ret (v := .agg #[.pointer (some ⟨b, 0, none⟩)]) (by simp [results, Tryz.results93, go_sem, c0]) rfl ⟨b, rfl, HB.out.set_ b1.out 0 _, Only.ext ((Ext.alloc' _ _).trans' HE.out) ((Only.refl _ _).set_ 0 _) (Nat.le_refl _)⟩

set_option maxRecDepth 100000 in
theorem mZeroInt (w : World) : Calls Tryz.prog 130 #[] w (RetInt 0 w) := by
  have nb := Lib.hid (Blk.new w 79 [.pointer none])
  go_enter Tryz.func130, Tryz.ntmps130
  go_wp2_with (go_at_call 139; refine (newInt 0 _ (by omega) (by omega)).mono ?_; rintro e w' ⟨v, rfl, ⟨b, rfl, hB⟩, hE⟩; have HB := Lib.hid hB; have b1 := Lib.hid (nb.out.ext hE); have HE := Lib.hid hE; clear hB hE; have c0 : w'.cell? ⟨w.heap.size, 0, none⟩ = some (.pointer none) := (b1.out.cell 0).trans rfl; have fz := b1.out.frozen 0)
  exact bodyPost_ret (v := .agg #[.pointer (some ⟨b, 0, none⟩)]) (by simp [results, Tryz.results130, go_sem, c0]) rfl ⟨b, rfl, HB.out.set_ b1.out 0 _, Only.ext ((Ext.alloc' _ _).trans' HE.out) ((Only.refl _ _).set_ 0 _) (Nat.le_refl _)⟩

set_option maxRecDepth 100000 in
theorem mIsNil (b : Nat) (z : Int) (w : World) (_ : BigAt w b z) : Calls Tryz.prog 169 #[.agg #[.pointer (some ⟨b, 0, none⟩)]] w (RetE (.bool false) w) := by
  have hp : ∀ W : World, (binOp .eql 77 (.pointer (some ⟨b, 0, none⟩)) (.pointer none)).run Tryz.prog W = .ok (.bool false) W := fun _ => by kernel_rfl
  go_enter Tryz.func169, Tryz.ntmps169
  go_wp2
  go_ret
  exact ⟨rfl, Ext.alloc' _ _⟩

set_option maxRecDepth 100000 in
theorem mIsInt64 (b : Nat) (z : Int) (w : World) (h : BigAt w b z) (h0 : -maxI ≤ z) (h1 : z ≤ maxI) : Calls Tryz.prog 129 #[.agg #[.pointer (some ⟨b, 0, none⟩)]] w (RetE (.bool true) w) := by
  have H := Lib.hid h; clear h
  go_enter Tryz.func129, Tryz.ntmps129
  go_wp2_with (go_at_call 131; refine (intIsInt64 _ z _ (by exact (H.out.ext (Ext.alloc' _ _)).big) h0 h1).mono ?_; rintro e w' ⟨rfl, rfl⟩)
  go_ret
  exact ⟨rfl, Ext.alloc' _ _⟩

set_option maxRecDepth 100000 in
theorem mInt64 (b : Nat) (z : Int) (w : World) (h : BigAt w b z) (h0 : -maxI ≤ z) (h1 : z ≤ maxI) : Calls Tryz.prog 81 #[.agg #[.pointer (some ⟨b, 0, none⟩)]] w (RetE (.int .i64 z) w) := by
  have H := Lib.hid h; clear h
  go_enter Tryz.func81, Tryz.ntmps81
  go_wp2_with (first | (go_at_call 131; refine (intIsInt64 _ z _ (by exact (H.out.ext (Ext.alloc' _ _)).big) h0 h1).mono ?_; rintro e w' ⟨rfl, rfl⟩) | (go_at_call 132; refine (intInt64 _ z _ (by exact (H.out.ext (Ext.alloc' _ _)).big) h0 h1).mono ?_; rintro e w' ⟨rfl, rfl⟩))
  go_ret
  exact ⟨rfl, Ext.alloc' _ _⟩

set_option maxRecDepth 100000 in
theorem mIsZero (b : Nat) (z : Int) (w : World) (h : BigAt w b z) : Calls Tryz.prog 148 #[.agg #[.pointer (some ⟨b, 0, none⟩)]] w (RetE (.bool (sgn z == 0)) w) := by
  have H := Lib.hid h; clear h
  go_enter Tryz.func148, Tryz.ntmps148
  go_wp2_with (go_at_call 141; refine (intSign _ z _ (by exact (H.out.ext (Ext.alloc' _ _)).big)).mono ?_; rintro e w' ⟨rfl, rfl⟩)
  go_ret
  exact ⟨rfl, Ext.alloc' _ _⟩

set_option maxRecDepth 100000 in
theorem mIsNegative (b : Nat) (z : Int) (w : World) (h : BigAt w b z) : Calls Tryz.prog 95 #[.agg #[.pointer (some ⟨b, 0, none⟩)]] w (RetE (.bool (sgn z == -1)) w) := by
  have H := Lib.hid h; clear h
  go_enter Tryz.func95, Tryz.ntmps95
  go_wp2_with (go_at_call 141; refine (intSign _ z _ (by exact (H.out.ext (Ext.alloc' _ _)).big)).mono ?_; rintro e w' ⟨rfl, rfl⟩)
  go_ret
  exact ⟨rfl, Ext.alloc' _ _⟩

set_option maxRecDepth 100000 in
theorem mSign (b : Nat) (z : Int) (w : World) (h : BigAt w b z) : Calls Tryz.prog 164 #[.agg #[.pointer (some ⟨b, 0, none⟩)]] w (RetE (.int .i64 (sgn z)) w) := by
  have H := Lib.hid h; clear h
  go_enter Tryz.func164, Tryz.ntmps164
  go_wp2_with (go_at_call 141; refine (intSign _ z _ (by exact (H.out.ext (Ext.alloc' _ _)).big)).mono ?_; rintro e w' ⟨rfl, rfl⟩)
  go_ret
  exact ⟨rfl, Ext.alloc' _ _⟩

set_option maxRecDepth 100000 in
theorem cEqual (u v : Value) (y z : Int) (w : World) (hu : IsBig w u y) (hv : IsBig w v z) (hy : y.natAbs < B64) (hz : z.natAbs < B64) : Calls Tryz.prog 175 #[u, v] w (RetQ (.bool (cmpZ y z == 0)) w) := by
  have H := Lib.hid (intCmp u v y z w hu hv hy hz); clear hu hv hy hz
  go_enter Tryz.func175, Tryz.ntmps175
  go_wp2_with (go_at_call 177; refine H.out.mono ?_; rintro e w' ⟨rfl, n, rfl⟩)
  go_ret
  exact ⟨rfl, n, rfl⟩

set_option maxRecDepth 100000 in
theorem cGT (u v : Value) (y z : Int) (w : World) (hu : IsBig w u y) (hv : IsBig w v z) (hy : y.natAbs < B64) (hz : z.natAbs < B64) : Calls Tryz.prog 160 #[u, v] w (RetQ (.bool (cmpZ y z == 1)) w) := by
  have H := Lib.hid (intCmp u v y z w hu hv hy hz); clear hu hv hy hz
  go_enter Tryz.func160, Tryz.ntmps160
  go_wp2_with (go_at_call 177; refine H.out.mono ?_; rintro e w' ⟨rfl, n, rfl⟩)
  go_ret
  exact ⟨rfl, n, rfl⟩

set_option maxRecDepth 100000 in
theorem cLT (u v : Value) (y z : Int) (w : World) (hu : IsBig w u y) (hv : IsBig w v z) (hy : y.natAbs < B64) (hz : z.natAbs < B64) : Calls Tryz.prog 161 #[u, v] w (RetQ (.bool (cmpZ y z == -1)) w) := by
  have H := Lib.hid (intCmp u v y z w hu hv hy hz); clear hu hv hy hz
  go_enter Tryz.func161, Tryz.ntmps161
  go_wp2_with (go_at_call 177; refine H.out.mono ?_; rintro e w' ⟨rfl, n, rfl⟩)
  go_ret
  exact ⟨rfl, n, rfl⟩

set_option maxRecDepth 100000 in
theorem cGTE (u v : Value) (y z : Int) (w : World) (hu : IsBig w u y) (hv : IsBig w v z) (hy : y.natAbs < B64) (hz : z.natAbs < B64) : Calls Tryz.prog 168 #[u, v] w (RetQ (.bool (decide (0 ≤ cmpZ y z))) w) := by
  have H := Lib.hid (intCmp u v y z w hu hv hy hz); clear hu hv hy hz
  go_enter Tryz.func168, Tryz.ntmps168
  go_wp2_with (go_at_call 177; refine H.out.mono ?_; rintro e w' ⟨rfl, n, rfl⟩)
  go_ret
  exact ⟨rfl, n, rfl⟩

set_option maxRecDepth 100000 in
theorem mEqual (a b : Nat) (y z : Int) (w : World) (hu : BigAt w a y) (hv : BigAt w b z) (hy : y.natAbs < B64) (hz : z.natAbs < B64) : Calls Tryz.prog 157 #[.agg #[.pointer (some ⟨a, 0, none⟩)], .agg #[.pointer (some ⟨b, 0, none⟩)]] w (RetE (.bool (cmpZ y z == 0)) w) := by
  have e2 := (Ext.alloc' w (intBox a)).trans' (Ext.alloc' _ (intBox b))
  have H := Lib.hid (cEqual _ _ y z _ (hu.ext e2).big (hv.ext e2).big hy hz); clear hu hv hy hz e2
  go_enter Tryz.func157, Tryz.ntmps157
  go_wp2_with (go_at_call 175; refine H.out.mono ?_; rintro e w' ⟨rfl, n, rfl⟩)
  go_ret
  exact ⟨rfl, ((Ext.alloc' _ _).trans' (Ext.alloc' _ _)).trans' (Ext.drewN' _ _)⟩

set_option maxRecDepth 100000 in
theorem mGT (a b : Nat) (y z : Int) (w : World) (hu : BigAt w a y) (hv : BigAt w b z) (hy : y.natAbs < B64) (hz : z.natAbs < B64) : Calls Tryz.prog 133 #[.agg #[.pointer (some ⟨a, 0, none⟩)], .agg #[.pointer (some ⟨b, 0, none⟩)]] w (RetE (.bool (cmpZ y z == 1)) w) := by
  have e2 := (Ext.alloc' w (intBox a)).trans' (Ext.alloc' _ (intBox b))
  have H := Lib.hid (cGT _ _ y z _ (hu.ext e2).big (hv.ext e2).big hy hz); clear hu hv hy hz e2
  go_enter Tryz.func133, Tryz.ntmps133
  go_wp2_with (go_at_call 160; refine H.out.mono ?_; rintro e w' ⟨rfl, n, rfl⟩)
  go_ret
  exact ⟨rfl, ((Ext.alloc' _ _).trans' (Ext.alloc' _ _)).trans' (Ext.drewN' _ _)⟩

set_option maxRecDepth 100000 in
theorem mLT (a b : Nat) (y z : Int) (w : World) (hu : BigAt w a y) (hv : BigAt w b z) (hy : y.natAbs < B64) (hz : z.natAbs < B64) : Calls Tryz.prog 134 #[.agg #[.pointer (some ⟨a, 0, none⟩)], .agg #[.pointer (some ⟨b, 0, none⟩)]] w (RetE (.bool (cmpZ y z == -1)) w) := by
  have e2 := (Ext.alloc' w (intBox a)).trans' (Ext.alloc' _ (intBox b))
  have H := Lib.hid (cLT _ _ y z _ (hu.ext e2).big (hv.ext e2).big hy hz); clear hu hv hy hz e2
  go_enter Tryz.func134, Tryz.ntmps134
  go_wp2_with (go_at_call 161; refine H.out.mono ?_; rintro e w' ⟨rfl, n, rfl⟩)
  go_ret
  exact ⟨rfl, ((Ext.alloc' _ _).trans' (Ext.alloc' _ _)).trans' (Ext.drewN' _ _)⟩

set_option maxRecDepth 100000 in
theorem mGTE (a b : Nat) (y z : Int) (w : World) (hu : BigAt w a y) (hv : BigAt w b z) (hy : y.natAbs < B64) (hz : z.natAbs < B64) : Calls Tryz.prog 149 #[.agg #[.pointer (some ⟨a, 0, none⟩)], .agg #[.pointer (some ⟨b, 0, none⟩)]] w (RetE (.bool (decide (0 ≤ cmpZ y z))) w) := by
  have e2 := (Ext.alloc' w (intBox a)).trans' (Ext.alloc' _ (intBox b))
  have H := Lib.hid (cGTE _ _ y z _ (hu.ext e2).big (hv.ext e2).big hy hz); clear hu hv hy hz e2
  go_enter Tryz.func149, Tryz.ntmps149
  go_wp2_with (go_at_call 168; refine H.out.mono ?_; rintro e w' ⟨rfl, n, rfl⟩)
  go_ret
  exact ⟨rfl, ((Ext.alloc' _ _).trans' (Ext.alloc' _ _)).trans' (Ext.drewN' _ _)⟩

end Go.Proofs.YtagfbefgcijegaaGreatDoor
