/-
  Contracts of cosmosmath's mul, div, Int.SafeMul, Mul, SafeQuo, Quo for numbers of at most one word.
-/
import Derived.Test.YtlpdhpfjcfihoaaGreatDoorIntQuo
import Derived.Test.YtlpdhpfjcfihoaaGreatDoorGB
namespace Go.Proofs.YtlpdhpfjcfihoaaGreatDoor
open Go Go.RowKit

set_option maxRecDepth 100000 in
theorem cMul (u v : Value) (y z : Int) (w : World) (hu : IsBig w u y) (hv : IsBig w v z) (hy : y.natAbs < B64) (hz : z.natAbs < B64) (huv : u ≠ v) : Calls Tryz.prog 187 #[u, v] w (RetPtr (y * z) w) := by
  have H := Lib.hid (intMul w.heap.size u v y z _ (hu.ext (ext1 w _)) (hv.ext (ext1 w _)) (blk_new0 w _ _) hy hz (big_ne hu) (big_ne hv) huv)
  clear hu hv hy hz huv
  go_enter Tryz.func187, Tryz.ntmps187
  go_wp2_with (go_at_call 142; refine H.out.mono ?_; rintro e w' ⟨rfl, hr⟩; have HR := Lib.hid hr; clear hr)
  go_ret
  exact ⟨_, rfl, HR.out.1, Only.ext (ext1 w _) HR.out.2 (Nat.le_refl _)⟩

set_option maxRecDepth 100000 in
theorem cDiv (u v : Value) (y z : Int) (w : World) (hu : IsBig w u y) (hv : IsBig w v z) (hy : y.natAbs < B64) (hz : z.natAbs < B64) (h0 : z ≠ 0) : Calls Tryz.prog 190 #[u, v] w (RetPtr (Int.tdiv y z) w) := by
  have H := Lib.hid (intQuo w.heap.size u v y z _ (hu.ext (ext1 w _)) (hv.ext (ext1 w _)) (blk_new0 w _ _) hy hz h0 (big_ne hu) (big_ne hv))
  clear hu hv hy hz h0
  go_enter Tryz.func190, Tryz.ntmps190
  go_wp2_with (go_at_call 218; refine H.out.mono ?_; rintro e w' ⟨rfl, hr⟩; have HR := Lib.hid hr; clear hr)
  go_ret
  exact ⟨_, rfl, HR.out.1, Only.ext (ext1 w _) HR.out.2 (Nat.le_refl _)⟩

set_option maxRecDepth 100000 in
theorem mSafeMul (a b : Nat) (y z : Int) (w : World) (hu : BigAt w a y) (hv : BigAt w b z) (hy : y.natAbs < B64) (hz : z.natAbs < B64) (hs : (y * z).natAbs < B64) (hab : a ≠ b) :
    Calls Tryz.prog 155 #[.agg #[.pointer (some ⟨a, 0, none⟩)], .agg #[.pointer (some ⟨b, 0, none⟩)]] w fun e w' => ∃ r, e = .returned (.tuple #[.agg #[.pointer (some ⟨r, 0, none⟩)], .nilIface]) ∧ BigAt w' r (y * z) ∧ Ext w w' := by
  have e3 := ext3 w (intBox a) (intBox b) (.cells #[.pointer none] 98)
  have nb := blk_new2 w (intBox a) (intBox b) 98 [.pointer none]
  have H := Lib.hid (cMul _ _ y z _ (hu.ext e3).big (hv.ext e3).big hy hz (by intro e; injection e with e; injection e with e; injection e with e; exact hab e))
  have NB := Lib.hid nb; have E3 := Lib.hid e3; clear nb e3
  have HS : ∀ W v, IsBig W v (y * z) → Calls Tryz.prog 188 #[v] W fun e w' => e = .returned (.bool false) ∧ W = w' := fun W v h => cOverflows v _ W h hs
  have HSS := Lib.hid HS
  clear hu hv hy hz HS hs hab
  go_enter Tryz.func155, Tryz.ntmps155
  go_wp2_with (first | (go_at_call 187; refine H.out.mono ?_; rintro e w' ⟨r, rfl, hr, hE⟩; have HR := Lib.hid hr; have b1 := Lib.hid (NB.out.ext hE); have HE := Lib.hid hE; clear hr hE; have c0 : w'.cell? ⟨w.heap.size + 2, 0, none⟩ = some (.pointer none) := (b1.out.cell 0).trans rfl; have fz := b1.out.frozen 0) | (go_at_call 188; refine (HSS.out _ _ (by exact (HR.out.set_ b1.out 0 _).big)).mono ?_; rintro e w'' ⟨rfl, rfl⟩))
  exact bodyPost_ret (v := .tuple #[.agg #[.pointer (some ⟨r, 0, none⟩)], .nilIface]) (by simp [results, Tryz.results155, go_sem, c0]) rfl ⟨r, rfl, (HR.out.set_ b1.out 0 _).set_ (b1.out.set_ 0 _) 0 _, Only.ext (E3.out.trans' HE.out) (((Only.refl _ _).set_ 0 _).set_ 0 _) (by omega)⟩

set_option maxRecDepth 100000 in
theorem mMul (a b : Nat) (y z : Int) (w : World) (hu : BigAt w a y) (hv : BigAt w b z) (hy : y.natAbs < B64) (hz : z.natAbs < B64) (hs : (y * z).natAbs < B64) (hab : a ≠ b) :
    Calls Tryz.prog 113 #[.agg #[.pointer (some ⟨a, 0, none⟩)], .agg #[.pointer (some ⟨b, 0, none⟩)]] w (RetInt (y * z) w) := by
  have e3 := ext3 w (intBox a) (intBox b) (.cells #[.pointer none] 98)
  have nb := blk_new2 w (intBox a) (intBox b) 98 [.pointer none]
  have H := Lib.hid (mSafeMul _ _ y z _ (hu.ext e3) (hv.ext e3) hy hz hs hab)
  have NB := Lib.hid nb; have E3 := Lib.hid e3; clear nb e3
  clear hu hv hy hz hs hab
  go_enter Tryz.func113, Tryz.ntmps113
  go_wp2_with (first | (go_at_call 155; refine H.out.mono ?_; rintro e w' ⟨r, rfl, hr, hE⟩; have HR := Lib.hid hr; have b1 := Lib.hid (NB.out.ext hE); have HE := Lib.hid hE; clear hr hE; have c0 : (w'.alloc (intBox r)).cell? ⟨w.heap.size + 2, 0, none⟩ = some (.pointer none) := ((b1.out.alloc _).cell 0).trans rfl; have fz := (b1.out.alloc (intBox r)).frozen 0))
  exact bodyPost_ret (v := .agg #[.pointer (some ⟨r, 0, none⟩)]) (by simp [results, Tryz.results113, go_sem, c0]) rfl ⟨r, rfl, (HR.out.ext (ext1 _ _)).set_ (b1.out.alloc _) 0 _, Only.ext ((E3.out.trans' HE.out).trans' (ext1 _ _)) ((Only.refl _ _).set_ 0 _) (by omega)⟩

theorem sgn_ne {z : Int} (h : z ≠ 0) : (sgn z == 0) = false := by
  unfold sgn
  by_cases h1 : z < 0
  · rw [if_pos h1]; rfl
  · rw [if_neg h1, if_pos (by omega)]; rfl
set_option maxRecDepth 100000 in
theorem mSafeQuo (a b : Nat) (y z : Int) (w : World) (hu : BigAt w a y) (hv : BigAt w b z) (hy : y.natAbs < B64) (hz : z.natAbs < B64) (h0 : z ≠ 0) :
    Calls Tryz.prog 159 #[.agg #[.pointer (some ⟨a, 0, none⟩)], .agg #[.pointer (some ⟨b, 0, none⟩)]] w fun e w' => ∃ r, e = .returned (.tuple #[.agg #[.pointer (some ⟨r, 0, none⟩)], .nilIface]) ∧ BigAt w' r (Int.tdiv y z) ∧ Ext w w' := by
  have e3 := ext3 w (intBox a) (intBox b) (.cells #[.pointer none] 98)
  have nb := blk_new2 w (intBox a) (intBox b) 98 [.pointer none]
  have H := Lib.hid (cDiv _ _ y z _ (hu.ext e3).big (hv.ext e3).big hy hz h0)
  have NB := Lib.hid nb; have E3 := Lib.hid e3; clear nb e3
  have HSG := Lib.hid (intSign _ z _ (hv.ext E3.out).big)
  have hsg := sgn_ne h0
  clear hu hv hy hz h0
  go_enter Tryz.func159, Tryz.ntmps159
  go_wp2_with (first | (go_at_call 190; refine H.out.mono ?_; rintro e w' ⟨r, rfl, hr, hE⟩; have HR := Lib.hid hr; have b1 := Lib.hid (NB.out.ext hE); have HE := Lib.hid hE; clear hr hE; have c0 : w'.cell? ⟨w.heap.size + 2, 0, none⟩ = some (.pointer none) := (b1.out.cell 0).trans rfl; have fz := b1.out.frozen 0) | (go_at_call 149; refine HSG.out.mono ?_; rintro e w'' ⟨rfl, rfl⟩))
  exact bodyPost_ret (v := .tuple #[.agg #[.pointer (some ⟨r, 0, none⟩)], .nilIface]) (by simp [results, Tryz.results159, go_sem, c0]) rfl ⟨r, rfl, HR.out.set_ b1.out 0 _, Only.ext (E3.out.trans' HE.out) ((Only.refl _ _).set_ 0 _) (by omega)⟩

set_option maxRecDepth 100000 in
theorem mQuo (a b : Nat) (y z : Int) (w : World) (hu : BigAt w a y) (hv : BigAt w b z) (hy : y.natAbs < B64) (hz : z.natAbs < B64) (h0 : z ≠ 0) :
    Calls Tryz.prog 116 #[.agg #[.pointer (some ⟨a, 0, none⟩)], .agg #[.pointer (some ⟨b, 0, none⟩)]] w (RetInt (Int.tdiv y z) w) := by
  have e3 := ext3 w (intBox a) (intBox b) (.cells #[.pointer none] 98)
  have nb := blk_new2 w (intBox a) (intBox b) 98 [.pointer none]
  have H := Lib.hid (mSafeQuo _ _ y z _ (hu.ext e3) (hv.ext e3) hy hz h0)
  have NB := Lib.hid nb; have E3 := Lib.hid e3; clear nb e3
  clear hu hv hy hz h0
  go_enter Tryz.func116, Tryz.ntmps116
  go_wp2_with (first | (go_at_call 159; refine H.out.mono ?_; rintro e w' ⟨r, rfl, hr, hE⟩; have HR := Lib.hid hr; have b1 := Lib.hid (NB.out.ext hE); have HE := Lib.hid hE; clear hr hE; have c0 : (w'.alloc (intBox r)).cell? ⟨w.heap.size + 2, 0, none⟩ = some (.pointer none) := ((b1.out.alloc _).cell 0).trans rfl; have fz := (b1.out.alloc (intBox r)).frozen 0))
  exact bodyPost_ret (v := .agg #[.pointer (some ⟨r, 0, none⟩)]) (by simp [results, Tryz.results116, go_sem, c0]) rfl ⟨r, rfl, (HR.out.ext (ext1 _ _)).set_ (b1.out.alloc _) 0 _, Only.ext ((E3.out.trans' HE.out).trans' (ext1 _ _)) ((Only.refl _ _).set_ 0 _) (by omega)⟩

end Go.Proofs.YtlpdhpfjcfihoaaGreatDoor
