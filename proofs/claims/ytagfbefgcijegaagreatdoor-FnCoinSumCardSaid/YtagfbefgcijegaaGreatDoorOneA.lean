/-
  The contracts of impl.AddOne, AddAmount, SubOne, SubAmount, and of the methods of types.Coin behind them.
-/
import Derived.Test.YtagfbefgcijegaaGreatDoorGK
import Derived.BigRegion
namespace Go.Proofs.YtagfbefgcijegaaGreatDoor
open Go Go.RowKit

set_option maxRecDepth 100000 in
set_option maxHeartbeats 2000000 in
theorem iAddOne (s : ByteArray) (y z : Int) (w : World) (h0 : y.natAbs ≤ 1125899906842624) (h1 : z.natAbs ≤ 1125899906842624) :
    Calls Tryz.prog 42 #[.agg #[.string s, .int .i64 y], .agg #[.string s, .int .i64 z]] w (RetE (.tuple #[.agg #[.string s, .int .i64 (y + z)], .bool true]) w) := by
  have HY := Lib.hid (fun W : World => iCoin s y W (by unfold maxI; omega) (by unfold maxI; omega))
  have HZ := Lib.hid (fun W : World => iCoin s z W (by unfold maxI; omega) (by unfold maxI; omega))
  have HBD := Lib.hid (show y.natAbs < B64 ∧ z.natAbs < B64 ∧ (y + z).natAbs < B64 ∧ -maxI ≤ y + z ∧ y + z ≤ maxI by unfold B64 maxI; omega)
  have kA := Lib.hid (((blk_new0 w 37 [.string s, .int .i64 y]).alloc (planBox s z)).alloc (.cells #[.string ⟨#[]⟩, .int .i64 0] 37))
  have kB := Lib.hid ((blk_new1 w (planBox s y) 37 [.string s, .int .i64 z]).alloc (.cells #[.string ⟨#[]⟩, .int .i64 0] 37))
  have kC := Lib.hid (blk_new2 w (planBox s y) (planBox s z) 37 [.string ⟨#[]⟩, .int .i64 0])
  clear h0 h1
  go_enter Tryz.func42, Tryz.ntmps42
  go_wp2_with (fail)
  go_region_law (first
    | (go_simp; go_at_call 83; (with_reducible refine (HY.out _).mono ?_); rintro e w1 ⟨b1, rfl, hB, hE⟩; have HB1 := Lib.hid hB; have HE1 := Lib.hid (Ext.undrew hE); have c10 : w1.cell? ⟨w.heap.size + 1, 0, none⟩ = some (.string s) := ((kB.out.ext HE1.out).cell 0).trans rfl; have c11 : w1.cell? ⟨w.heap.size + 1, 1, none⟩ = some (.int .i64 z) := ((kB.out.ext HE1.out).cell 1).trans rfl; clear hB hE)
    | (go_simp; go_at_call 83; (with_reducible refine (HZ.out _).mono ?_); rintro e w2 ⟨b2, rfl, hB, hE⟩; have HB2 := Lib.hid hB; have HE2 := Lib.hid (HE1.out.trans' hE); have HB12 := Lib.hid (HB1.out.ext hE); clear hB hE)
    | (go_simp; go_at_call 90; refine (tAdd s b1 b2 y z _ HB12.out HB2.out HBD.out.1 HBD.out.2.1 HBD.out.2.2.1).mono ?_; rintro e w3 ⟨b3, rfl, hB, hE⟩; have HB3 := Lib.hid hB; have HE3 := Lib.hid (HE2.out.trans' hE); clear hB hE)
    | (go_simp; go_at_call 79; refine (iBackCoin s b3 (y + z) _ HB3.out HBD.out.2.2.2.1 HBD.out.2.2.2.2).mono ?_; rintro e w4 ⟨rfl, hE⟩; have HE4 := Lib.hid (HE3.out.trans' hE); have d0 : w4.cell? ⟨w.heap.size + 2, 0, none⟩ = some (.string ⟨#[]⟩) := ((kC.out.ext HE4.out).cell 0).trans rfl; have d1 : w4.cell? ⟨w.heap.size + 2, 1, none⟩ = some (.int .i64 0) := ((kC.out.ext HE4.out).cell 1).trans rfl; have f0 := (kC.out.ext HE4.out).frozen 0; have f1 := (kC.out.ext HE4.out).frozen 1; clear hE))
  all_goals go_wp2
  all_goals exact bodyPost_ret (v := .tuple #[.agg #[.string s, .int .i64 (y + z)], .bool true]) (by simp [results, Tryz.results42, go_sem, d0, d1]) rfl ⟨rfl, Only.ext ((ext3 _ _ _ _).trans' HE4.out) (((Only.refl _ _).set_ 0 _).set_ 1 _) (by omega)⟩

set_option maxRecDepth 100000 in
theorem iAddOneNo (s t : ByteArray) (y z : Int) (w : World) (h : s ≠ t) :
    Calls Tryz.prog 42 #[.agg #[.string s, .int .i64 y], .agg #[.string t, .int .i64 z]] w (RetE (.tuple #[.agg #[.string ⟨#[]⟩, .int .i64 0], .bool false]) w) := by
  have hne : (s.toList == t.toList) = false := by rw [key_beq]; simpa using h
  clear h
  go_enter Tryz.func42, Tryz.ntmps42
  go_wp2
  exact bodyPost_ret (v := .tuple #[.agg #[.string ⟨#[]⟩, .int .i64 0], .bool false]) (by simp [results, Tryz.results42, go_sem]) rfl ⟨rfl, ext3 _ _ _ _⟩

set_option maxRecDepth 100000 in
theorem tAddAmount (s : ByteArray) (a b : Nat) (y z : Int) (w : World) (hu : BigAt w a y) (hv : BigAt w b z) (hy : y.natAbs < B64) (hz : z.natAbs < B64) (hs : (y + z).natAbs < B64) :
    Calls Tryz.prog 92 #[coinV s a, .agg #[.pointer (some ⟨b, 0, none⟩)]] w (RetCoin s (y + z) w) := by
  have k0 := Lib.hid (((blk_new0 w 81 [.string s, .pointer (some ⟨a, 0, none⟩)]).alloc (intBox b)).alloc (.cells #[.string ByteArray.empty, .pointer none] 81))
  have k2 := Lib.hid (blk_new2 w (coinBox s a) (intBox b) 81 [.string ByteArray.empty, .pointer none])
  have e3 := ext3 w (coinBox s a) (intBox b) (.cells #[.string ByteArray.empty, .pointer none] 81)
  have HU := Lib.hid (hu.ext e3); have HV := Lib.hid (hv.ext e3); have E3 := Lib.hid e3
  clear hu hv e3
  go_enter Tryz.func92, Tryz.ntmps92
  go_wp2
  go_region_law (first | (go_simp; go_at_call 137; refine (mAdd a b y z _ (by exact HU.out.ext (Ext.drewN' _ 1)) (by exact HV.out.ext (Ext.drewN' _ 1)) hy hz hs).mono ?_; rintro e w1 ⟨r, rfl, hB, hE⟩; have hE' := Ext.undrew hE; have HB := Lib.hid hB; have HE := Lib.hid hE'; have s0 : w1.cell? ⟨w.heap.size, 0, none⟩ = some (.string s) := (((k0.out).ext hE').cell 0).trans rfl; have d0 : w1.cell? ⟨w.heap.size + 2, 0, none⟩ = some (.string ByteArray.empty) := (((k2.out).ext hE').cell 0).trans rfl; have d1 : w1.cell? ⟨w.heap.size + 2, 1, none⟩ = some (.pointer none) := (((k2.out).ext hE').cell 1).trans rfl; have f0 := ((k2.out).ext hE').frozen 0; have f1 := ((k2.out).ext hE').frozen 1; clear hE hE' hB))
  all_goals go_wp2
  all_goals exact bodyPost_ret (v := coinV s r) (by simp [results, Tryz.results92, go_sem, d0, d1]) rfl ⟨r, rfl, two_done (E3.out.trans' HE.out) (by omega) (k2.out.ext HE.out) HB.out _ _⟩

set_option maxRecDepth 100000 in
set_option maxHeartbeats 1000000 in
theorem iAddAmount (s : ByteArray) (y n : Int) (w : World) (h0 : y.natAbs ≤ 1125899906842624) (h1 : n.natAbs ≤ 1125899906842624) :
    Calls Tryz.prog 44 #[.agg #[.string s, .int .i64 y], .int .i64 n] w (RetE (.tuple #[.agg #[.string s, .int .i64 (y + n)], .bool true]) w) := by
  have HY := Lib.hid (fun W : World => iCoin s y W (by unfold maxI; omega) (by unfold maxI; omega))
  have HN := Lib.hid (fun W : World => mNewInt n W (by unfold maxI; omega) (by unfold maxI; omega))
  have HBD := Lib.hid (show y.natAbs < B64 ∧ n.natAbs < B64 ∧ (y + n).natAbs < B64 ∧ -maxI ≤ y + n ∧ y + n ≤ maxI by unfold B64 maxI; omega)
  have kC := Lib.hid (blk_new1 w (planBox s y) 37 [.string ⟨#[]⟩, .int .i64 0])
  clear h0 h1
  go_enter Tryz.func44, Tryz.ntmps44
  go_wp2_with (fail)
  go_at_call 83
  refine (HY.out _).mono ?_
  rintro e w1 ⟨b1, rfl, hB, hE⟩
  have HB1 := Lib.hid hB; have HE1 := Lib.hid hE; clear hB hE
  go_wp2_with (fail)
  go_at_call 93
  refine (HN.out _).mono ?_
  rintro e w2 ⟨b2, rfl, hB, hE⟩
  have HB2 := Lib.hid hB; have HE2 := Lib.hid (HE1.out.trans' hE); have HB12 := Lib.hid (HB1.out.ext hE); clear hB hE
  go_wp2_with (fail)
  go_at_call 92
  refine (tAddAmount s b1 b2 y n _ HB12.out HB2.out HBD.out.1 HBD.out.2.1 HBD.out.2.2.1).mono ?_
  rintro e w3 ⟨b3, rfl, hB, hE⟩
  have HB3 := Lib.hid hB; have HE3 := Lib.hid (HE2.out.trans' hE); clear hB hE
  go_wp2_with (fail)
  go_at_call 79
  refine (iBackCoin s b3 (y + n) _ HB3.out HBD.out.2.2.2.1 HBD.out.2.2.2.2).mono ?_
  rintro e w4 ⟨rfl, hE⟩
  have HE4 := Lib.hid (HE3.out.trans' hE)
  have d0 : w4.cell? ⟨w.heap.size + 1, 0, none⟩ = some (.string ⟨#[]⟩) := ((kC.out.ext HE4.out).cell 0).trans rfl
  have d1 : w4.cell? ⟨w.heap.size + 1, 1, none⟩ = some (.int .i64 0) := ((kC.out.ext HE4.out).cell 1).trans rfl
  have f0 := (kC.out.ext HE4.out).frozen 0
  have f1 := (kC.out.ext HE4.out).frozen 1
  clear hE
  go_wp2
  exact bodyPost_ret (v := .tuple #[.agg #[.string s, .int .i64 (y + n)], .bool true]) (by simp [results, Tryz.results44, go_sem, d0, d1]) rfl ⟨rfl, Only.ext ((ext2 _ _ _).trans' HE4.out) (((Only.refl _ _).set_ 0 _).set_ 1 _) (by omega)⟩

end Go.Proofs.YtagfbefgcijegaaGreatDoor
