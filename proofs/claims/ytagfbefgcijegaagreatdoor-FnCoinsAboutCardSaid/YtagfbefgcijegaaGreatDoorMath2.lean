/-
  Contracts of cosmosmath.Int's arithmetic, for numbers of at most one word.
-/
import Derived.Test.YtagfbefgcijegaaGreatDoorMath
import Derived.Test.YtagfbefgcijegaaGreatDoorArith2
namespace Go.Proofs.YtagfbefgcijegaaGreatDoor
open Go Go.RowKit

theorem blk_new0 (w : World) (t : TypeId) (cs : List Value) : Blk (w.alloc (.cells cs.toArray t)) w.heap.size t cs := Blk.new _ _ _
theorem blk_new1 (w : World) (o : Obj) (t : TypeId) (cs : List Value) : Blk ((w.alloc o).alloc (.cells cs.toArray t)) (w.heap.size + 1) t cs := by
  have := Blk.new (w.alloc o) t cs
  rwa [show (w.alloc o).heap.size = w.heap.size + 1 by simp] at this
theorem blk_new2 (w : World) (o o' : Obj) (t : TypeId) (cs : List Value) : Blk (((w.alloc o).alloc o').alloc (.cells cs.toArray t)) (w.heap.size + 2) t cs := by
  have := Blk.new ((w.alloc o).alloc o') t cs
  rwa [show ((w.alloc o).alloc o').heap.size = w.heap.size + 2 by simp] at this
theorem blk_new3 (w : World) (o o' o'' : Obj) (t : TypeId) (cs : List Value) : Blk ((((w.alloc o).alloc o').alloc o'').alloc (.cells cs.toArray t)) (w.heap.size + 3) t cs := by
  have := Blk.new (((w.alloc o).alloc o').alloc o'') t cs
  rwa [show (((w.alloc o).alloc o').alloc o'').heap.size = w.heap.size + 3 by simp] at this
theorem ext1 (w : World) (o : Obj) : Ext w (w.alloc o) := Ext.alloc' _ _
theorem ext2 (w : World) (o o' : Obj) : Ext w ((w.alloc o).alloc o') := (Ext.alloc' _ _).trans' (Ext.alloc' _ _)
theorem ext3 (w : World) (o o' o'' : Obj) : Ext w (((w.alloc o).alloc o').alloc o'') := (ext2 _ _ _).trans' (Ext.alloc' _ _)
theorem ext4 (w : World) (o o' o'' o3 : Obj) : Ext w ((((w.alloc o).alloc o').alloc o'').alloc o3) := (ext3 _ _ _ _).trans' (Ext.alloc' _ _)
theorem big_ne {w : World} {v : Value} {z : Int} (h : IsBig w v z) : v ≠ .pointer (some ⟨w.heap.size, 0, none⟩) := by
  obtain ⟨b, rfl, hb⟩ := h
  intro e
  injection e with e
  injection e with e
  injection e with e
  have := hb.lt
  omega
/-- A pointer to a new big integer handed back. -/
def RetPtr (z : Int) (w : World) (e : Ending) (w' : World) : Prop := ∃ b, e = .returned (.pointer (some ⟨b, 0, none⟩)) ∧ BigAt w' b z ∧ Ext w w'

set_option maxRecDepth 100000 in
theorem cOverflows (v : Value) (z : Int) (w : World) (hv : IsBig w v z) (hz : z.natAbs < B64) : Calls Tryz.prog 166 #[v] w fun e w' => e = .returned (.bool false) ∧ w = w' := by
  have H := Lib.hid (intBits v z w hv hz); clear hv hz
  go_enter Tryz.func166, Tryz.ntmps166
  go_wp2_with (go_at_call 180; refine H.out.mono ?_; rintro e w' ⟨⟨A, n, c, hn, rfl⟩, rfl⟩; have hd : decide (4 < n) = false := by simp; omega)
  go_ret
  exact ⟨rfl, rfl⟩

set_option maxRecDepth 100000 in
theorem cAdd (u v : Value) (y z : Int) (w : World) (hu : IsBig w u y) (hv : IsBig w v z) (hy : y.natAbs < B64) (hz : z.natAbs < B64) : Calls Tryz.prog 178 #[u, v] w (RetPtr (y + z) w) := by
  have H := Lib.hid (intAdd w.heap.size u v y z _ (hu.ext (ext1 w _)) (hv.ext (ext1 w _)) (blk_new0 w _ _) hy hz (big_ne hu) (big_ne hv))
  clear hu hv hy hz
  go_enter Tryz.func178, Tryz.ntmps178
  go_wp2_with (go_at_call 197; refine H.out.mono ?_; rintro e w' ⟨rfl, hr⟩; have HR := Lib.hid hr; clear hr)
  go_ret
  exact ⟨_, rfl, HR.out.1, Only.ext (ext1 w _) HR.out.2 (Nat.le_refl _)⟩

set_option maxRecDepth 100000 in
theorem cSub (u v : Value) (y z : Int) (w : World) (hu : IsBig w u y) (hv : IsBig w v z) (hy : y.natAbs < B64) (hz : z.natAbs < B64) : Calls Tryz.prog 165 #[u, v] w (RetPtr (y - z) w) := by
  have H := Lib.hid (intSub w.heap.size u v y z _ (hu.ext (ext1 w _)) (hv.ext (ext1 w _)) (blk_new0 w _ _) hy hz (big_ne hu) (big_ne hv))
  clear hu hv hy hz
  go_enter Tryz.func165, Tryz.ntmps165
  go_wp2_with (go_at_call 179; refine H.out.mono ?_; rintro e w' ⟨rfl, hr⟩; have HR := Lib.hid hr; clear hr)
  go_ret
  exact ⟨_, rfl, HR.out.1, Only.ext (ext1 w _) HR.out.2 (Nat.le_refl _)⟩

set_option maxRecDepth 100000 in
theorem mSafeAdd (a b : Nat) (y z : Int) (w : World) (hu : BigAt w a y) (hv : BigAt w b z) (hy : y.natAbs < B64) (hz : z.natAbs < B64) (hs : (y + z).natAbs < B64) :
    Calls Tryz.prog 163 #[.agg #[.pointer (some ⟨a, 0, none⟩)], .agg #[.pointer (some ⟨b, 0, none⟩)]] w fun e w' => ∃ r, e = .returned (.tuple #[.agg #[.pointer (some ⟨r, 0, none⟩)], .nilIface]) ∧ BigAt w' r (y + z) ∧ Ext w w' := by
  have e3 := ext3 w (intBox a) (intBox b) (.cells #[.pointer none] 79)
  have nb := blk_new2 w (intBox a) (intBox b) 79 [.pointer none]
  have H := Lib.hid (cAdd _ _ y z _ (hu.ext e3).big (hv.ext e3).big hy hz)
  have NB := Lib.hid nb; have E3 := Lib.hid e3; clear nb e3
  have HS : ∀ W v, IsBig W v (y + z) → Calls Tryz.prog 166 #[v] W fun e w' => e = .returned (.bool false) ∧ W = w' := fun W v h => cOverflows v _ W h hs
  have HSS := Lib.hid HS
  clear hu hv hy hz HS hs
  go_enter Tryz.func163, Tryz.ntmps163
  go_wp2_with (first | (go_at_call 178; refine H.out.mono ?_; rintro e w' ⟨r, rfl, hr, hE⟩; have HR := Lib.hid hr; have b1 := Lib.hid (NB.out.ext hE); have HE := Lib.hid hE; clear hr hE; have c0 : w'.cell? ⟨w.heap.size + 2, 0, none⟩ = some (.pointer none) := (b1.out.cell 0).trans rfl; have fz := b1.out.frozen 0) | (go_at_call 166; refine (HSS.out _ _ (by exact (HR.out.set_ b1.out 0 _).big)).mono ?_; rintro e w'' ⟨rfl, rfl⟩))
  exact bodyPost_ret (v := .tuple #[.agg #[.pointer (some ⟨r, 0, none⟩)], .nilIface]) (by simp [results, Tryz.results163, go_sem, c0]) rfl ⟨r, rfl, (HR.out.set_ b1.out 0 _).set_ (b1.out.set_ 0 _) 0 _, Only.ext (E3.out.trans' HE.out) (((Only.refl _ _).set_ 0 _).set_ 0 _) (by omega)⟩

set_option maxRecDepth 100000 in
theorem mSafeSub (a b : Nat) (y z : Int) (w : World) (hu : BigAt w a y) (hv : BigAt w b z) (hy : y.natAbs < B64) (hz : z.natAbs < B64) (hs : (y - z).natAbs < B64) :
    Calls Tryz.prog 140 #[.agg #[.pointer (some ⟨a, 0, none⟩)], .agg #[.pointer (some ⟨b, 0, none⟩)]] w fun e w' => ∃ r, e = .returned (.tuple #[.agg #[.pointer (some ⟨r, 0, none⟩)], .nilIface]) ∧ BigAt w' r (y - z) ∧ Ext w w' := by
  have e3 := ext3 w (intBox a) (intBox b) (.cells #[.pointer none] 79)
  have nb := blk_new2 w (intBox a) (intBox b) 79 [.pointer none]
  have H := Lib.hid (cSub _ _ y z _ (hu.ext e3).big (hv.ext e3).big hy hz)
  have NB := Lib.hid nb; have E3 := Lib.hid e3; clear nb e3
  have HS : ∀ W v, IsBig W v (y - z) → Calls Tryz.prog 166 #[v] W fun e w' => e = .returned (.bool false) ∧ W = w' := fun W v h => cOverflows v _ W h hs
  have HSS := Lib.hid HS
  clear hu hv hy hz HS hs
  go_enter Tryz.func140, Tryz.ntmps140
  go_wp2_with (first | (go_at_call 165; refine H.out.mono ?_; rintro e w' ⟨r, rfl, hr, hE⟩; have HR := Lib.hid hr; have b1 := Lib.hid (NB.out.ext hE); have HE := Lib.hid hE; clear hr hE; have c0 : w'.cell? ⟨w.heap.size + 2, 0, none⟩ = some (.pointer none) := (b1.out.cell 0).trans rfl; have fz := b1.out.frozen 0) | (go_at_call 166; refine (HSS.out _ _ (by exact (HR.out.set_ b1.out 0 _).big)).mono ?_; rintro e w'' ⟨rfl, rfl⟩))
  exact bodyPost_ret (v := .tuple #[.agg #[.pointer (some ⟨r, 0, none⟩)], .nilIface]) (by simp [results, Tryz.results140, go_sem, c0]) rfl ⟨r, rfl, (HR.out.set_ b1.out 0 _).set_ (b1.out.set_ 0 _) 0 _, Only.ext (E3.out.trans' HE.out) (((Only.refl _ _).set_ 0 _).set_ 0 _) (by omega)⟩

set_option maxRecDepth 100000 in
theorem mAdd (a b : Nat) (y z : Int) (w : World) (hu : BigAt w a y) (hv : BigAt w b z) (hy : y.natAbs < B64) (hz : z.natAbs < B64) (hs : (y + z).natAbs < B64) :
    Calls Tryz.prog 137 #[.agg #[.pointer (some ⟨a, 0, none⟩)], .agg #[.pointer (some ⟨b, 0, none⟩)]] w (RetInt (y + z) w) := by
  have e3 := ext3 w (intBox a) (intBox b) (.cells #[.pointer none] 79)
  have nb := blk_new2 w (intBox a) (intBox b) 79 [.pointer none]
  have H := Lib.hid (mSafeAdd _ _ y z _ (hu.ext e3) (hv.ext e3) hy hz hs)
  have NB := Lib.hid nb; have E3 := Lib.hid e3; clear nb e3
  clear hu hv hy hz hs
  go_enter Tryz.func137, Tryz.ntmps137
  go_wp2_with (first | (go_at_call 163; refine H.out.mono ?_; rintro e w' ⟨r, rfl, hr, hE⟩; have HR := Lib.hid hr; have b1 := Lib.hid (NB.out.ext hE); have HE := Lib.hid hE; clear hr hE; have c0 : (w'.alloc (intBox r)).cell? ⟨w.heap.size + 2, 0, none⟩ = some (.pointer none) := ((b1.out.alloc _).cell 0).trans rfl; have fz := (b1.out.alloc (intBox r)).frozen 0))
  exact bodyPost_ret (v := .agg #[.pointer (some ⟨r, 0, none⟩)]) (by simp [results, Tryz.results137, go_sem, c0]) rfl ⟨r, rfl, (HR.out.ext (ext1 _ _)).set_ (b1.out.alloc _) 0 _, Only.ext ((E3.out.trans' HE.out).trans' (ext1 _ _)) ((Only.refl _ _).set_ 0 _) (by omega)⟩

set_option maxRecDepth 100000 in
theorem mSub (a b : Nat) (y z : Int) (w : World) (hu : BigAt w a y) (hv : BigAt w b z) (hy : y.natAbs < B64) (hz : z.natAbs < B64) (hs : (y - z).natAbs < B64) :
    Calls Tryz.prog 94 #[.agg #[.pointer (some ⟨a, 0, none⟩)], .agg #[.pointer (some ⟨b, 0, none⟩)]] w (RetInt (y - z) w) := by
  have e3 := ext3 w (intBox a) (intBox b) (.cells #[.pointer none] 79)
  have nb := blk_new2 w (intBox a) (intBox b) 79 [.pointer none]
  have H := Lib.hid (mSafeSub _ _ y z _ (hu.ext e3) (hv.ext e3) hy hz hs)
  have NB := Lib.hid nb; have E3 := Lib.hid e3; clear nb e3
  clear hu hv hy hz hs
  go_enter Tryz.func94, Tryz.ntmps94
  go_wp2_with (first | (go_at_call 140; refine H.out.mono ?_; rintro e w' ⟨r, rfl, hr, hE⟩; have HR := Lib.hid hr; have b1 := Lib.hid (NB.out.ext hE); have HE := Lib.hid hE; clear hr hE; have c0 : (w'.alloc (intBox r)).cell? ⟨w.heap.size + 2, 0, none⟩ = some (.pointer none) := ((b1.out.alloc _).cell 0).trans rfl; have fz := (b1.out.alloc (intBox r)).frozen 0))
  exact bodyPost_ret (v := .agg #[.pointer (some ⟨r, 0, none⟩)]) (by simp [results, Tryz.results94, go_sem, c0]) rfl ⟨r, rfl, (HR.out.ext (ext1 _ _)).set_ (b1.out.alloc _) 0 _, Only.ext ((E3.out.trans' HE.out).trans' (ext1 _ _)) ((Only.refl _ _).set_ 0 _) (by omega)⟩

end Go.Proofs.YtagfbefgcijegaaGreatDoor
