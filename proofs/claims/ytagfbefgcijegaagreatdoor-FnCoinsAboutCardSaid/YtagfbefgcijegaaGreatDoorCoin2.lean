/-
  Contracts of types.Coin's methods on one coin; Add of two coins of one denomination.
-/
import Derived.Test.YtagfbefgcijegaaGreatDoorCoin
namespace Go.Proofs.YtagfbefgcijegaaGreatDoor
open Go Go.RowKit

set_option maxRecDepth 100000 in
theorem tIsZero (s : ByteArray) (b : Nat) (z : Int) (w : World) (h : BigAt w b z) : Calls Tryz.prog 142 #[coinV s b] w (RetE (.bool (sgn z == 0)) w) := by
  have H := Lib.hid (mIsZero b z _ (h.ext (ext1 w (coinBox s b)))); clear h
  go_enter Tryz.func142, Tryz.ntmps142
  go_wp2_with (go_at_call 148; refine H.out.mono ?_; rintro e w' ⟨rfl, hE⟩; have HE := Lib.hid hE; clear hE)
  go_ret
  exact ⟨rfl, (ext1 _ _).trans' HE.out⟩

set_option maxRecDepth 100000 in
theorem tIsPositive (s : ByteArray) (b : Nat) (z : Int) (w : World) (h : BigAt w b z) : Calls Tryz.prog 143 #[coinV s b] w (RetE (.bool (sgn z == 1)) w) := by
  have H := Lib.hid (mSign b z _ (h.ext (ext1 w (coinBox s b)))); clear h
  go_enter Tryz.func143, Tryz.ntmps143
  go_wp2_with (go_at_call 164; refine H.out.mono ?_; rintro e w' ⟨rfl, hE⟩; have HE := Lib.hid hE; clear hE)
  go_ret
  exact ⟨rfl, (ext1 _ _).trans' HE.out⟩

set_option maxRecDepth 100000 in
theorem tIsNegative (s : ByteArray) (b : Nat) (z : Int) (w : World) (h : BigAt w b z) : Calls Tryz.prog 138 #[coinV s b] w (RetE (.bool (sgn z == -1)) w) := by
  have H := Lib.hid (mSign b z _ (h.ext (ext1 w (coinBox s b)))); clear h
  go_enter Tryz.func138, Tryz.ntmps138
  go_wp2_with (go_at_call 164; refine H.out.mono ?_; rintro e w' ⟨rfl, hE⟩; have HE := Lib.hid hE; clear hE)
  go_ret
  exact ⟨rfl, (ext1 _ _).trans' HE.out⟩


/-- Equal of two coins. -/
def coinEq (s t : ByteArray) (y z : Int) : Bool := (s.toList == t.toList) && (cmpZ y z == 0)

set_option maxRecDepth 100000 in
theorem tAdd (s : ByteArray) (a b : Nat) (y z : Int) (w : World) (hu : BigAt w a y) (hv : BigAt w b z) (hy : y.natAbs < B64) (hz : z.natAbs < B64) (hs : (y + z).natAbs < B64) :
    Calls Tryz.prog 90 #[coinV s a, coinV s b] w (RetCoin s (y + z) w) := by
  have k0 := Lib.hid (((blk_new0 w 81 [.string s, .pointer (some ⟨a, 0, none⟩)]).alloc (coinBox s b)).alloc (.cells #[.string ByteArray.empty, .pointer none] 81))
  have k1 := Lib.hid ((blk_new1 w (coinBox s a) 81 [.string s, .pointer (some ⟨b, 0, none⟩)]).alloc (.cells #[.string ByteArray.empty, .pointer none] 81))
  have k2 := Lib.hid (blk_new2 w (coinBox s a) (coinBox s b) 81 [.string ByteArray.empty, .pointer none])
  have e3 := ext3 w (coinBox s a) (coinBox s b) (.cells #[.string ByteArray.empty, .pointer none] 81)
  have HU := Lib.hid (hu.ext e3); have HV := Lib.hid (hv.ext e3); have E3 := Lib.hid e3
  clear hu hv e3
  go_enter Tryz.func90, Tryz.ntmps90
  go_wp2
  go_region_law (first | (go_simp; go_at_call 137; refine (mAdd a b y z _ (by exact HU.out.ext (Ext.drewN' _ 1)) (by exact HV.out.ext (Ext.drewN' _ 1)) hy hz hs).mono ?_; rintro e w1 ⟨r, rfl, hB, hE⟩; have hE' := Ext.undrew hE; have HB := Lib.hid hB; have HE := Lib.hid hE'; have s0 : w1.cell? ⟨w.heap.size, 0, none⟩ = some (.string s) := (((k0.out).ext hE').cell 0).trans rfl; have d0 : w1.cell? ⟨w.heap.size + 2, 0, none⟩ = some (.string ByteArray.empty) := (((k2.out).ext hE').cell 0).trans rfl; have d1 : w1.cell? ⟨w.heap.size + 2, 1, none⟩ = some (.pointer none) := (((k2.out).ext hE').cell 1).trans rfl; have f0 := ((k2.out).ext hE').frozen 0; have f1 := ((k2.out).ext hE').frozen 1; clear hE hE' hB))
  all_goals go_wp2
  all_goals exact bodyPost_ret (v := coinV s r) (by simp [results, Tryz.results90, go_sem, d0, d1]) rfl ⟨r, rfl, two_done (E3.out.trans' HE.out) (by omega) (k2.out.ext HE.out) HB.out _ _⟩

set_option maxRecDepth 100000 in
theorem tEqual (s t : ByteArray) (a b : Nat) (y z : Int) (w : World) (hu : BigAt w a y) (hv : BigAt w b z) (hy : y.natAbs < B64) (hz : z.natAbs < B64) :
    Calls Tryz.prog 127 #[coinV s a, coinV t b] w (RetE (.bool (coinEq s t y z)) w) := by
  have e2 := ext2 w (coinBox s a) (coinBox t b)
  have H := Lib.hid (mEqual a b y z _ (hu.ext e2) (hv.ext e2) hy hz)
  clear hu hv hy hz e2
  by_cases h : s.toList == t.toList
  · have F := Lib.hid (show coinEq s t y z = (cmpZ y z == 0) by unfold coinEq; rw [h]; rfl)
    go_enter Tryz.func127, Tryz.ntmps127
    go_wp2_with (go_at_call 157; refine H.out.mono ?_; rintro e w' ⟨rfl, hE⟩; have HE := Lib.hid hE; clear hE)
    go_ret
    rw [F.out]; exact ⟨rfl, (ext2 _ _ _).trans' HE.out⟩
  · have h' : (s.toList == t.toList) = false := by simpa using h
    have F := Lib.hid (show coinEq s t y z = false by unfold coinEq; rw [h']; rfl)
    clear h
    go_enter Tryz.func127, Tryz.ntmps127
    go_wp2
    go_ret
    rw [F.out]; exact ⟨rfl, ext2 _ _ _⟩
end Go.Proofs.YtagfbefgcijegaaGreatDoor
