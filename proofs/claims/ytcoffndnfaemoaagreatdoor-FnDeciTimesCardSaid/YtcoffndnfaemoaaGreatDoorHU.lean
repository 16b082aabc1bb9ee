/-
  The specification's DeciParts of any decimal: its parts, or none if the whole part is no int64.
  DeciParts of any decimal, and the laws' deciIsAll where some whole part is no int64.
-/
import Derived.Test.YtcoffndnfaemoaaGreatDoorGZ
import Derived.Test.YtcoffndnfaemoaaGreatDoorHR
namespace Go.Proofs.YtcoffndnfaemoaaGreatDoor
open Go Go.RowKit

theorem w63i : IntKind.i64.wrap 9223372036854775808 = -9223372036854775808 := by decide +kernel
theorem w63j : IntKind.i64.wrap (- -9223372036854775808) = -9223372036854775808 := by decide +kernel
theorem or_words {a b c : Nat} (ha : a < B64) (hb : b < B64) (hc : c < B64) : bits .or .u64 (bits .or .u64 (a : Int) (b : Int)) (c : Int) = (((a ||| b) ||| c : Nat) : Int) := by
  have hab : a ||| b < B64 := by
    have := Nat.or_lt_two_pow (n := 64) (x := a) (y := b) (by unfold B64 at ha; omega) (by unfold B64 at hb; omega)
    unfold B64; omega
  rw [bits_or_u64_nat _ _ (by unfold B64 at ha; omega) (by unfold B64 at hb; omega), bits_or_u64_nat _ _ (by unfold B64 at hab; omega) (by unfold B64 at hc; omega)]
set_option maxRecDepth 100000 in
set_option maxHeartbeats 4000000 in
theorem sPartsX (b : Bool) (M N r q0 q1 q2 q3 : Nat) (w : World) (hX : ∃ X : Int, bits .or .u64 (bits .or .u64 (q1 : Int) (q2 : Int)) (q3 : Int) = X ∧ X ≠ 0)
    (hT : ∀ W, Calls Tryz.prog 57 #[.int .i64 18] W (RetE (dn N) W)) (hO : ∀ W, Calls Tryz.prog 91 #[dn M, dn N] W (RetPair (.agg #[.int .u64 q0, .int .u64 q1, .int .u64 q2, .int .u64 q3]) (.agg #[.int .u64 r, .int .u64 0, .int .u64 0, .int .u64 0]) W)) :
    Calls Tryz.prog 51 #[deV b M] w (RetE (.tuple #[.int .i64 0, .int .i64 0, .bool false]) w) := by
  have HT := Lib.hid hT; have HO := Lib.hid hO
  obtain ⟨W, hW⟩ : ∃ W, W = w.alloc (deBox b M) := ⟨_, rfl⟩
  have K0 := Lib.hid (show Blk W w.heap.size 39 [.bool b, dw M 0, dw M 1, dw M 2, dw M 3] by rw [hW]; exact blk_new0 w 39 [.bool b, dw M 0, dw M 1, dw M 2, dw M 3])
  have EW := Lib.hid (show Ext w W by rw [hW]; exact ext1 _ _)
  have HWW := Lib.hid hW; clear hW hT hO
  obtain ⟨c0, c1, c2, c3, c4, lc⟩ := five_cells K0.out
  have KS0 := Lib.hid (show DF4 w.heap.size (dw M 0) (dw M 1) (dw M 2) (dw M 3) W from ⟨c1, c2, c3, c4⟩)
  have KS0d := Lib.hid (show DF4 w.heap.size (dw M 0) (dw M 1) (dw M 2) (dw M 3) W.drew from KS0.out)
  clear c0
  go_enter Tryz.func51, Tryz.ntmps51
  go_upto_region 1 with fail
  rw [← HWW.out]
  go_cut [5, 6] (fun s5 s6 wx => NTwoBox q0 q1 q2 q3 r 0 0 0 W s5 s6 wx)
  case first =>
    go_region_held3 (fun w' => w'.cell? ⟨w.heap.size, 1, none⟩ = some (dw M 0) ∧ w'.cell? ⟨w.heap.size, 2, none⟩ = some (dw M 1) ∧ w'.cell? ⟨w.heap.size, 3, none⟩ = some (dw M 2) ∧ w'.cell? ⟨w.heap.size, 4, none⟩ = some (dw M 3)) ((show DF4 w.heap.size (dw M 0) (dw M 1) (dw M 2) (dw M 3) _; (repeat (first | (with_reducible refine DF4.drew ?_) | (with_reducible refine DF4.alloc ?_ _) | (with_reducible refine DF4.set4 ?_ ?_; rotate_left; omega))); with_reducible first | exact KS2.out | exact KS1.out | exact KS0d.out | exact KS0.out)) (first | (go_at_call 57; (with_reducible refine (HT.out _).mono ?_); rintro e w1 ⟨rfl, hE⟩; have HE1 := Lib.hid (show Ext W w1 by with_reducible first | exact Ext.undrew hE | exact ndnE1 hE | exact ndnE2 hE); have KS1 := Lib.hid (KS0.out.ext HE1.out); have sz1 := HE1.out.size; (try ((with_reducible have KA := Lib.hid (ndnM1 hE)); have lA := KA.out.lt; have pA : ¬ W.heap.size = w1.heap.size := (by omega); have pA' : ¬ w1.heap.size = W.heap.size := (by omega))); (try ((with_reducible have KAB := ndnM2 hE); have KA := Lib.hid KAB.1; have KB := Lib.hid KAB.2; clear KAB)); clear hE c1 c2 c3 c4) | (go_at_call 91; (with_reducible refine (HO.out _).mono ?_); rintro e w2 ⟨rfl, hE⟩; have HE12 := Lib.hid (show Ext w1 w2 by with_reducible first | exact hE | exact ndnF1 hE | exact ndnF2 hE); have HE2 := Lib.hid (HE1.out.trans' HE12.out); have KS2 := Lib.hid (KS1.out.ext HE12.out); have sz2 := HE12.out.size; (try (have K5 := Lib.hid (KA.out.ext HE12.out); have l5 := K5.out.lt; have q50 : w2.cell? ⟨W.heap.size, 0, none⟩ = some (.int .u64 0) := (K5.out.cell 0).trans rfl; have f50 := K5.out.frozen 0; have qa50 : ∀ o : Obj, (w2.alloc o).cell? ⟨W.heap.size, 0, none⟩ = some (.int .u64 0) := fun o => ((K5.out.alloc o).cell 0).trans rfl; have fa50 : ∀ o : Obj, (w2.alloc o).frozen? ⟨W.heap.size, 0, none⟩ = false := fun o => (K5.out.alloc o).frozen 0; have q51 : w2.cell? ⟨W.heap.size, 1, none⟩ = some (.int .u64 0) := (K5.out.cell 1).trans rfl; have f51 := K5.out.frozen 1; have qa51 : ∀ o : Obj, (w2.alloc o).cell? ⟨W.heap.size, 1, none⟩ = some (.int .u64 0) := fun o => ((K5.out.alloc o).cell 1).trans rfl; have fa51 : ∀ o : Obj, (w2.alloc o).frozen? ⟨W.heap.size, 1, none⟩ = false := fun o => (K5.out.alloc o).frozen 1; have q52 : w2.cell? ⟨W.heap.size, 2, none⟩ = some (.int .u64 0) := (K5.out.cell 2).trans rfl; have f52 := K5.out.frozen 2; have qa52 : ∀ o : Obj, (w2.alloc o).cell? ⟨W.heap.size, 2, none⟩ = some (.int .u64 0) := fun o => ((K5.out.alloc o).cell 2).trans rfl; have fa52 : ∀ o : Obj, (w2.alloc o).frozen? ⟨W.heap.size, 2, none⟩ = false := fun o => (K5.out.alloc o).frozen 2; have q53 : w2.cell? ⟨W.heap.size, 3, none⟩ = some (.int .u64 0) := (K5.out.cell 3).trans rfl; have f53 := K5.out.frozen 3; have qa53 : ∀ o : Obj, (w2.alloc o).cell? ⟨W.heap.size, 3, none⟩ = some (.int .u64 0) := fun o => ((K5.out.alloc o).cell 3).trans rfl; have fa53 : ∀ o : Obj, (w2.alloc o).frozen? ⟨W.heap.size, 3, none⟩ = false := fun o => (K5.out.alloc o).frozen 3; have e5 : ¬ W.heap.size = w2.heap.size := (by omega); have e5' : ¬ w2.heap.size = W.heap.size := (by omega))); (try (have K6 := Lib.hid (KB.out.ext HE12.out); have l6 := K6.out.lt; have q60 : w2.cell? ⟨W.heap.size + 1, 0, none⟩ = some (.int .u64 0) := (K6.out.cell 0).trans rfl; have f60 := K6.out.frozen 0; have qa60 : ∀ o : Obj, (w2.alloc o).cell? ⟨W.heap.size + 1, 0, none⟩ = some (.int .u64 0) := fun o => ((K6.out.alloc o).cell 0).trans rfl; have fa60 : ∀ o : Obj, (w2.alloc o).frozen? ⟨W.heap.size + 1, 0, none⟩ = false := fun o => (K6.out.alloc o).frozen 0; have q61 : w2.cell? ⟨W.heap.size + 1, 1, none⟩ = some (.int .u64 0) := (K6.out.cell 1).trans rfl; have f61 := K6.out.frozen 1; have qa61 : ∀ o : Obj, (w2.alloc o).cell? ⟨W.heap.size + 1, 1, none⟩ = some (.int .u64 0) := fun o => ((K6.out.alloc o).cell 1).trans rfl; have fa61 : ∀ o : Obj, (w2.alloc o).frozen? ⟨W.heap.size + 1, 1, none⟩ = false := fun o => (K6.out.alloc o).frozen 1; have q62 : w2.cell? ⟨W.heap.size + 1, 2, none⟩ = some (.int .u64 0) := (K6.out.cell 2).trans rfl; have f62 := K6.out.frozen 2; have qa62 : ∀ o : Obj, (w2.alloc o).cell? ⟨W.heap.size + 1, 2, none⟩ = some (.int .u64 0) := fun o => ((K6.out.alloc o).cell 2).trans rfl; have fa62 : ∀ o : Obj, (w2.alloc o).frozen? ⟨W.heap.size + 1, 2, none⟩ = false := fun o => (K6.out.alloc o).frozen 2; have q63 : w2.cell? ⟨W.heap.size + 1, 3, none⟩ = some (.int .u64 0) := (K6.out.cell 3).trans rfl; have f63 := K6.out.frozen 3; have qa63 : ∀ o : Obj, (w2.alloc o).cell? ⟨W.heap.size + 1, 3, none⟩ = some (.int .u64 0) := fun o => ((K6.out.alloc o).cell 3).trans rfl; have fa63 : ∀ o : Obj, (w2.alloc o).frozen? ⟨W.heap.size + 1, 3, none⟩ = false := fun o => (K6.out.alloc o).frozen 3; have e6 : ¬ W.heap.size + 1 = w2.heap.size := (by omega); have e6' : ¬ w2.heap.size = W.heap.size + 1 := (by omega))); (first | ((with_reducible have K7 := Lib.hid (ndnN1 hE)); have l7 := K7.out.lt; have q70 : w2.cell? ⟨w1.heap.size, 0, none⟩ = some (.int .u64 0) := (K7.out.cell 0).trans rfl; have f70 := K7.out.frozen 0; have qa70 : ∀ o : Obj, (w2.alloc o).cell? ⟨w1.heap.size, 0, none⟩ = some (.int .u64 0) := fun o => ((K7.out.alloc o).cell 0).trans rfl; have fa70 : ∀ o : Obj, (w2.alloc o).frozen? ⟨w1.heap.size, 0, none⟩ = false := fun o => (K7.out.alloc o).frozen 0; have q71 : w2.cell? ⟨w1.heap.size, 1, none⟩ = some (.int .u64 0) := (K7.out.cell 1).trans rfl; have f71 := K7.out.frozen 1; have qa71 : ∀ o : Obj, (w2.alloc o).cell? ⟨w1.heap.size, 1, none⟩ = some (.int .u64 0) := fun o => ((K7.out.alloc o).cell 1).trans rfl; have fa71 : ∀ o : Obj, (w2.alloc o).frozen? ⟨w1.heap.size, 1, none⟩ = false := fun o => (K7.out.alloc o).frozen 1; have q72 : w2.cell? ⟨w1.heap.size, 2, none⟩ = some (.int .u64 0) := (K7.out.cell 2).trans rfl; have f72 := K7.out.frozen 2; have qa72 : ∀ o : Obj, (w2.alloc o).cell? ⟨w1.heap.size, 2, none⟩ = some (.int .u64 0) := fun o => ((K7.out.alloc o).cell 2).trans rfl; have fa72 : ∀ o : Obj, (w2.alloc o).frozen? ⟨w1.heap.size, 2, none⟩ = false := fun o => (K7.out.alloc o).frozen 2; have q73 : w2.cell? ⟨w1.heap.size, 3, none⟩ = some (.int .u64 0) := (K7.out.cell 3).trans rfl; have f73 := K7.out.frozen 3; have qa73 : ∀ o : Obj, (w2.alloc o).cell? ⟨w1.heap.size, 3, none⟩ = some (.int .u64 0) := fun o => ((K7.out.alloc o).cell 3).trans rfl; have fa73 : ∀ o : Obj, (w2.alloc o).frozen? ⟨w1.heap.size, 3, none⟩ = false := fun o => (K7.out.alloc o).frozen 3; have e7 : ¬ w1.heap.size = w2.heap.size := (by omega); have e7' : ¬ w2.heap.size = w1.heap.size := (by omega)) | ((with_reducible have K78 := ndnN2 hE); have K7 := Lib.hid K78.1; have K8 := Lib.hid K78.2; clear K78; have l7 := K7.out.lt; have q70 : w2.cell? ⟨w1.heap.size, 0, none⟩ = some (.int .u64 0) := (K7.out.cell 0).trans rfl; have f70 := K7.out.frozen 0; have qa70 : ∀ o : Obj, (w2.alloc o).cell? ⟨w1.heap.size, 0, none⟩ = some (.int .u64 0) := fun o => ((K7.out.alloc o).cell 0).trans rfl; have fa70 : ∀ o : Obj, (w2.alloc o).frozen? ⟨w1.heap.size, 0, none⟩ = false := fun o => (K7.out.alloc o).frozen 0; have q71 : w2.cell? ⟨w1.heap.size, 1, none⟩ = some (.int .u64 0) := (K7.out.cell 1).trans rfl; have f71 := K7.out.frozen 1; have qa71 : ∀ o : Obj, (w2.alloc o).cell? ⟨w1.heap.size, 1, none⟩ = some (.int .u64 0) := fun o => ((K7.out.alloc o).cell 1).trans rfl; have fa71 : ∀ o : Obj, (w2.alloc o).frozen? ⟨w1.heap.size, 1, none⟩ = false := fun o => (K7.out.alloc o).frozen 1; have q72 : w2.cell? ⟨w1.heap.size, 2, none⟩ = some (.int .u64 0) := (K7.out.cell 2).trans rfl; have f72 := K7.out.frozen 2; have qa72 : ∀ o : Obj, (w2.alloc o).cell? ⟨w1.heap.size, 2, none⟩ = some (.int .u64 0) := fun o => ((K7.out.alloc o).cell 2).trans rfl; have fa72 : ∀ o : Obj, (w2.alloc o).frozen? ⟨w1.heap.size, 2, none⟩ = false := fun o => (K7.out.alloc o).frozen 2; have q73 : w2.cell? ⟨w1.heap.size, 3, none⟩ = some (.int .u64 0) := (K7.out.cell 3).trans rfl; have f73 := K7.out.frozen 3; have qa73 : ∀ o : Obj, (w2.alloc o).cell? ⟨w1.heap.size, 3, none⟩ = some (.int .u64 0) := fun o => ((K7.out.alloc o).cell 3).trans rfl; have fa73 : ∀ o : Obj, (w2.alloc o).frozen? ⟨w1.heap.size, 3, none⟩ = false := fun o => (K7.out.alloc o).frozen 3; have e7 : ¬ w1.heap.size = w2.heap.size := (by omega); have e7' : ¬ w2.heap.size = w1.heap.size := (by omega); have l8 := K8.out.lt; have q80 : w2.cell? ⟨w1.heap.size + 1, 0, none⟩ = some (.int .u64 0) := (K8.out.cell 0).trans rfl; have f80 := K8.out.frozen 0; have qa80 : ∀ o : Obj, (w2.alloc o).cell? ⟨w1.heap.size + 1, 0, none⟩ = some (.int .u64 0) := fun o => ((K8.out.alloc o).cell 0).trans rfl; have fa80 : ∀ o : Obj, (w2.alloc o).frozen? ⟨w1.heap.size + 1, 0, none⟩ = false := fun o => (K8.out.alloc o).frozen 0; have q81 : w2.cell? ⟨w1.heap.size + 1, 1, none⟩ = some (.int .u64 0) := (K8.out.cell 1).trans rfl; have f81 := K8.out.frozen 1; have qa81 : ∀ o : Obj, (w2.alloc o).cell? ⟨w1.heap.size + 1, 1, none⟩ = some (.int .u64 0) := fun o => ((K8.out.alloc o).cell 1).trans rfl; have fa81 : ∀ o : Obj, (w2.alloc o).frozen? ⟨w1.heap.size + 1, 1, none⟩ = false := fun o => (K8.out.alloc o).frozen 1; have q82 : w2.cell? ⟨w1.heap.size + 1, 2, none⟩ = some (.int .u64 0) := (K8.out.cell 2).trans rfl; have f82 := K8.out.frozen 2; have qa82 : ∀ o : Obj, (w2.alloc o).cell? ⟨w1.heap.size + 1, 2, none⟩ = some (.int .u64 0) := fun o => ((K8.out.alloc o).cell 2).trans rfl; have fa82 : ∀ o : Obj, (w2.alloc o).frozen? ⟨w1.heap.size + 1, 2, none⟩ = false := fun o => (K8.out.alloc o).frozen 2; have q83 : w2.cell? ⟨w1.heap.size + 1, 3, none⟩ = some (.int .u64 0) := (K8.out.cell 3).trans rfl; have f83 := K8.out.frozen 3; have qa83 : ∀ o : Obj, (w2.alloc o).cell? ⟨w1.heap.size + 1, 3, none⟩ = some (.int .u64 0) := fun o => ((K8.out.alloc o).cell 3).trans rfl; have fa83 : ∀ o : Obj, (w2.alloc o).frozen? ⟨w1.heap.size + 1, 3, none⟩ = false := fun o => (K8.out.alloc o).frozen 3; have e8 : ¬ w1.heap.size + 1 = w2.heap.size := (by omega); have e8' : ¬ w2.heap.size = w1.heap.size + 1 := (by omega)) | skip); clear hE))
    all_goals (go_wp2_with fail; go_meet)
    all_goals first | with_reducible exact ntwoBox_nn _ _ _ _ _ _ _ _ HE2.out | with_reducible exact ntwoBox_nn' _ _ _ _ _ _ _ _ HE2.out | with_reducible exact ntwoBox_on _ _ _ _ _ _ _ _ K5.out (by omega) HE2.out | with_reducible exact ntwoBox_no _ _ _ _ _ _ _ _ K5.out (by omega) HE2.out | with_reducible exact ntwoBox_on _ _ _ _ _ _ _ _ K7.out (by omega) HE2.out | with_reducible exact ntwoBox_no _ _ _ _ _ _ _ _ K7.out (by omega) HE2.out | with_reducible exact ntwoBox_oo _ _ _ _ _ _ _ _ K5.out K7.out (by omega) (by omega) (by omega) HE2.out | with_reducible exact ntwoBox_oo _ _ _ _ _ _ _ _ K7.out K5.out (by omega) (by omega) (by omega) HE2.out | with_reducible exact ntwoBox_oo _ _ _ _ _ _ _ _ K5.out K6.out (by omega) (by omega) (by omega) HE2.out | with_reducible exact ntwoBox_oo _ _ _ _ _ _ _ _ K6.out K5.out (by omega) (by omega) (by omega) HE2.out | with_reducible exact ntwoBox_oo _ _ _ _ _ _ _ _ K7.out K8.out (by omega) (by omega) (by omega) HE2.out | with_reducible exact ntwoBox_oo _ _ _ _ _ _ _ _ K8.out K7.out (by omega) (by omega) (by omega) HE2.out
  case rest =>
    obtain ⟨p, g, rfl, rfl, hP, hQ, hE⟩ := hcut
    obtain ⟨p0, p1, p2, p3, lp⟩ := four_cells hP
    obtain ⟨g0, g1, g2, g3, lg⟩ := four_cells hQ
    obtain ⟨n0, _⟩ := five_cells (K0.out.ext hE)
    have HE := Lib.hid (EW.out.trans' hE)
    clear hP hQ hE c1 c2 c3 c4
    obtain ⟨X, fX, hX0⟩ := hX
    have hX1 : (X == 0) = false := by simpa using hX0
    go_wp2
    go_ret3
    exact ⟨rfl, HE.out⟩
set_option maxRecDepth 100000 in
set_option maxHeartbeats 4000000 in
theorem sPartsH (b : Bool) (M N r q0 : Nat) (w : World) (hq : 9223372036854775808 < q0)
    (hT : ∀ W, Calls Tryz.prog 57 #[.int .i64 18] W (RetE (dn N) W)) (hO : ∀ W, Calls Tryz.prog 91 #[dn M, dn N] W (RetPair (.agg #[.int .u64 q0, .int .u64 0, .int .u64 0, .int .u64 0]) (.agg #[.int .u64 r, .int .u64 0, .int .u64 0, .int .u64 0]) W)) :
    Calls Tryz.prog 51 #[deV b M] w (RetE (.tuple #[.int .i64 0, .int .i64 0, .bool false]) w) := by
  have HT := Lib.hid hT; have HO := Lib.hid hO
  obtain ⟨W, hW⟩ : ∃ W, W = w.alloc (deBox b M) := ⟨_, rfl⟩
  have K0 := Lib.hid (show Blk W w.heap.size 39 [.bool b, dw M 0, dw M 1, dw M 2, dw M 3] by rw [hW]; exact blk_new0 w 39 [.bool b, dw M 0, dw M 1, dw M 2, dw M 3])
  have EW := Lib.hid (show Ext w W by rw [hW]; exact ext1 _ _)
  have HWW := Lib.hid hW; clear hW hT hO
  obtain ⟨c0, c1, c2, c3, c4, lc⟩ := five_cells K0.out
  have KS0 := Lib.hid (show DF4 w.heap.size (dw M 0) (dw M 1) (dw M 2) (dw M 3) W from ⟨c1, c2, c3, c4⟩)
  have KS0d := Lib.hid (show DF4 w.heap.size (dw M 0) (dw M 1) (dw M 2) (dw M 3) W.drew from KS0.out)
  clear c0
  go_enter Tryz.func51, Tryz.ntmps51
  go_upto_region 1 with fail
  rw [← HWW.out]
  go_cut [5, 6] (fun s5 s6 wx => NTwoBox q0 0 0 0 r 0 0 0 W s5 s6 wx)
  case first =>
    go_region_held3 (fun w' => w'.cell? ⟨w.heap.size, 1, none⟩ = some (dw M 0) ∧ w'.cell? ⟨w.heap.size, 2, none⟩ = some (dw M 1) ∧ w'.cell? ⟨w.heap.size, 3, none⟩ = some (dw M 2) ∧ w'.cell? ⟨w.heap.size, 4, none⟩ = some (dw M 3)) ((show DF4 w.heap.size (dw M 0) (dw M 1) (dw M 2) (dw M 3) _; (repeat (first | (with_reducible refine DF4.drew ?_) | (with_reducible refine DF4.alloc ?_ _) | (with_reducible refine DF4.set4 ?_ ?_; rotate_left; omega))); with_reducible first | exact KS2.out | exact KS1.out | exact KS0d.out | exact KS0.out)) (first | (go_at_call 57; (with_reducible refine (HT.out _).mono ?_); rintro e w1 ⟨rfl, hE⟩; have HE1 := Lib.hid (show Ext W w1 by with_reducible first | exact Ext.undrew hE | exact ndnE1 hE | exact ndnE2 hE); have KS1 := Lib.hid (KS0.out.ext HE1.out); have sz1 := HE1.out.size; (try ((with_reducible have KA := Lib.hid (ndnM1 hE)); have lA := KA.out.lt; have pA : ¬ W.heap.size = w1.heap.size := (by omega); have pA' : ¬ w1.heap.size = W.heap.size := (by omega))); (try ((with_reducible have KAB := ndnM2 hE); have KA := Lib.hid KAB.1; have KB := Lib.hid KAB.2; clear KAB)); clear hE c1 c2 c3 c4) | (go_at_call 91; (with_reducible refine (HO.out _).mono ?_); rintro e w2 ⟨rfl, hE⟩; have HE12 := Lib.hid (show Ext w1 w2 by with_reducible first | exact hE | exact ndnF1 hE | exact ndnF2 hE); have HE2 := Lib.hid (HE1.out.trans' HE12.out); have KS2 := Lib.hid (KS1.out.ext HE12.out); have sz2 := HE12.out.size; (try (have K5 := Lib.hid (KA.out.ext HE12.out); have l5 := K5.out.lt; have q50 : w2.cell? ⟨W.heap.size, 0, none⟩ = some (.int .u64 0) := (K5.out.cell 0).trans rfl; have f50 := K5.out.frozen 0; have qa50 : ∀ o : Obj, (w2.alloc o).cell? ⟨W.heap.size, 0, none⟩ = some (.int .u64 0) := fun o => ((K5.out.alloc o).cell 0).trans rfl; have fa50 : ∀ o : Obj, (w2.alloc o).frozen? ⟨W.heap.size, 0, none⟩ = false := fun o => (K5.out.alloc o).frozen 0; have q51 : w2.cell? ⟨W.heap.size, 1, none⟩ = some (.int .u64 0) := (K5.out.cell 1).trans rfl; have f51 := K5.out.frozen 1; have qa51 : ∀ o : Obj, (w2.alloc o).cell? ⟨W.heap.size, 1, none⟩ = some (.int .u64 0) := fun o => ((K5.out.alloc o).cell 1).trans rfl; have fa51 : ∀ o : Obj, (w2.alloc o).frozen? ⟨W.heap.size, 1, none⟩ = false := fun o => (K5.out.alloc o).frozen 1; have q52 : w2.cell? ⟨W.heap.size, 2, none⟩ = some (.int .u64 0) := (K5.out.cell 2).trans rfl; have f52 := K5.out.frozen 2; have qa52 : ∀ o : Obj, (w2.alloc o).cell? ⟨W.heap.size, 2, none⟩ = some (.int .u64 0) := fun o => ((K5.out.alloc o).cell 2).trans rfl; have fa52 : ∀ o : Obj, (w2.alloc o).frozen? ⟨W.heap.size, 2, none⟩ = false := fun o => (K5.out.alloc o).frozen 2; have q53 : w2.cell? ⟨W.heap.size, 3, none⟩ = some (.int .u64 0) := (K5.out.cell 3).trans rfl; have f53 := K5.out.frozen 3; have qa53 : ∀ o : Obj, (w2.alloc o).cell? ⟨W.heap.size, 3, none⟩ = some (.int .u64 0) := fun o => ((K5.out.alloc o).cell 3).trans rfl; have fa53 : ∀ o : Obj, (w2.alloc o).frozen? ⟨W.heap.size, 3, none⟩ = false := fun o => (K5.out.alloc o).frozen 3; have e5 : ¬ W.heap.size = w2.heap.size := (by omega); have e5' : ¬ w2.heap.size = W.heap.size := (by omega))); (try (have K6 := Lib.hid (KB.out.ext HE12.out); have l6 := K6.out.lt; have q60 : w2.cell? ⟨W.heap.size + 1, 0, none⟩ = some (.int .u64 0) := (K6.out.cell 0).trans rfl; have f60 := K6.out.frozen 0; have qa60 : ∀ o : Obj, (w2.alloc o).cell? ⟨W.heap.size + 1, 0, none⟩ = some (.int .u64 0) := fun o => ((K6.out.alloc o).cell 0).trans rfl; have fa60 : ∀ o : Obj, (w2.alloc o).frozen? ⟨W.heap.size + 1, 0, none⟩ = false := fun o => (K6.out.alloc o).frozen 0; have q61 : w2.cell? ⟨W.heap.size + 1, 1, none⟩ = some (.int .u64 0) := (K6.out.cell 1).trans rfl; have f61 := K6.out.frozen 1; have qa61 : ∀ o : Obj, (w2.alloc o).cell? ⟨W.heap.size + 1, 1, none⟩ = some (.int .u64 0) := fun o => ((K6.out.alloc o).cell 1).trans rfl; have fa61 : ∀ o : Obj, (w2.alloc o).frozen? ⟨W.heap.size + 1, 1, none⟩ = false := fun o => (K6.out.alloc o).frozen 1; have q62 : w2.cell? ⟨W.heap.size + 1, 2, none⟩ = some (.int .u64 0) := (K6.out.cell 2).trans rfl; have f62 := K6.out.frozen 2; have qa62 : ∀ o : Obj, (w2.alloc o).cell? ⟨W.heap.size + 1, 2, none⟩ = some (.int .u64 0) := fun o => ((K6.out.alloc o).cell 2).trans rfl; have fa62 : ∀ o : Obj, (w2.alloc o).frozen? ⟨W.heap.size + 1, 2, none⟩ = false := fun o => (K6.out.alloc o).frozen 2; have q63 : w2.cell? ⟨W.heap.size + 1, 3, none⟩ = some (.int .u64 0) := (K6.out.cell 3).trans rfl; have f63 := K6.out.frozen 3; have qa63 : ∀ o : Obj, (w2.alloc o).cell? ⟨W.heap.size + 1, 3, none⟩ = some (.int .u64 0) := fun o => ((K6.out.alloc o).cell 3).trans rfl; have fa63 : ∀ o : Obj, (w2.alloc o).frozen? ⟨W.heap.size + 1, 3, none⟩ = false := fun o => (K6.out.alloc o).frozen 3; have e6 : ¬ W.heap.size + 1 = w2.heap.size := (by omega); have e6' : ¬ w2.heap.size = W.heap.size + 1 := (by omega))); (first | ((with_reducible have K7 := Lib.hid (ndnN1 hE)); have l7 := K7.out.lt; have q70 : w2.cell? ⟨w1.heap.size, 0, none⟩ = some (.int .u64 0) := (K7.out.cell 0).trans rfl; have f70 := K7.out.frozen 0; have qa70 : ∀ o : Obj, (w2.alloc o).cell? ⟨w1.heap.size, 0, none⟩ = some (.int .u64 0) := fun o => ((K7.out.alloc o).cell 0).trans rfl; have fa70 : ∀ o : Obj, (w2.alloc o).frozen? ⟨w1.heap.size, 0, none⟩ = false := fun o => (K7.out.alloc o).frozen 0; have q71 : w2.cell? ⟨w1.heap.size, 1, none⟩ = some (.int .u64 0) := (K7.out.cell 1).trans rfl; have f71 := K7.out.frozen 1; have qa71 : ∀ o : Obj, (w2.alloc o).cell? ⟨w1.heap.size, 1, none⟩ = some (.int .u64 0) := fun o => ((K7.out.alloc o).cell 1).trans rfl; have fa71 : ∀ o : Obj, (w2.alloc o).frozen? ⟨w1.heap.size, 1, none⟩ = false := fun o => (K7.out.alloc o).frozen 1; have q72 : w2.cell? ⟨w1.heap.size, 2, none⟩ = some (.int .u64 0) := (K7.out.cell 2).trans rfl; have f72 := K7.out.frozen 2; have qa72 : ∀ o : Obj, (w2.alloc o).cell? ⟨w1.heap.size, 2, none⟩ = some (.int .u64 0) := fun o => ((K7.out.alloc o).cell 2).trans rfl; have fa72 : ∀ o : Obj, (w2.alloc o).frozen? ⟨w1.heap.size, 2, none⟩ = false := fun o => (K7.out.alloc o).frozen 2; have q73 : w2.cell? ⟨w1.heap.size, 3, none⟩ = some (.int .u64 0) := (K7.out.cell 3).trans rfl; have f73 := K7.out.frozen 3; have qa73 : ∀ o : Obj, (w2.alloc o).cell? ⟨w1.heap.size, 3, none⟩ = some (.int .u64 0) := fun o => ((K7.out.alloc o).cell 3).trans rfl; have fa73 : ∀ o : Obj, (w2.alloc o).frozen? ⟨w1.heap.size, 3, none⟩ = false := fun o => (K7.out.alloc o).frozen 3; have e7 : ¬ w1.heap.size = w2.heap.size := (by omega); have e7' : ¬ w2.heap.size = w1.heap.size := (by omega)) | ((with_reducible have K78 := ndnN2 hE); have K7 := Lib.hid K78.1; have K8 := Lib.hid K78.2; clear K78; have l7 := K7.out.lt; have q70 : w2.cell? ⟨w1.heap.size, 0, none⟩ = some (.int .u64 0) := (K7.out.cell 0).trans rfl; have f70 := K7.out.frozen 0; have qa70 : ∀ o : Obj, (w2.alloc o).cell? ⟨w1.heap.size, 0, none⟩ = some (.int .u64 0) := fun o => ((K7.out.alloc o).cell 0).trans rfl; have fa70 : ∀ o : Obj, (w2.alloc o).frozen? ⟨w1.heap.size, 0, none⟩ = false := fun o => (K7.out.alloc o).frozen 0; have q71 : w2.cell? ⟨w1.heap.size, 1, none⟩ = some (.int .u64 0) := (K7.out.cell 1).trans rfl; have f71 := K7.out.frozen 1; have qa71 : ∀ o : Obj, (w2.alloc o).cell? ⟨w1.heap.size, 1, none⟩ = some (.int .u64 0) := fun o => ((K7.out.alloc o).cell 1).trans rfl; have fa71 : ∀ o : Obj, (w2.alloc o).frozen? ⟨w1.heap.size, 1, none⟩ = false := fun o => (K7.out.alloc o).frozen 1; have q72 : w2.cell? ⟨w1.heap.size, 2, none⟩ = some (.int .u64 0) := (K7.out.cell 2).trans rfl; have f72 := K7.out.frozen 2; have qa72 : ∀ o : Obj, (w2.alloc o).cell? ⟨w1.heap.size, 2, none⟩ = some (.int .u64 0) := fun o => ((K7.out.alloc o).cell 2).trans rfl; have fa72 : ∀ o : Obj, (w2.alloc o).frozen? ⟨w1.heap.size, 2, none⟩ = false := fun o => (K7.out.alloc o).frozen 2; have q73 : w2.cell? ⟨w1.heap.size, 3, none⟩ = some (.int .u64 0) := (K7.out.cell 3).trans rfl; have f73 := K7.out.frozen 3; have qa73 : ∀ o : Obj, (w2.alloc o).cell? ⟨w1.heap.size, 3, none⟩ = some (.int .u64 0) := fun o => ((K7.out.alloc o).cell 3).trans rfl; have fa73 : ∀ o : Obj, (w2.alloc o).frozen? ⟨w1.heap.size, 3, none⟩ = false := fun o => (K7.out.alloc o).frozen 3; have e7 : ¬ w1.heap.size = w2.heap.size := (by omega); have e7' : ¬ w2.heap.size = w1.heap.size := (by omega); have l8 := K8.out.lt; have q80 : w2.cell? ⟨w1.heap.size + 1, 0, none⟩ = some (.int .u64 0) := (K8.out.cell 0).trans rfl; have f80 := K8.out.frozen 0; have qa80 : ∀ o : Obj, (w2.alloc o).cell? ⟨w1.heap.size + 1, 0, none⟩ = some (.int .u64 0) := fun o => ((K8.out.alloc o).cell 0).trans rfl; have fa80 : ∀ o : Obj, (w2.alloc o).frozen? ⟨w1.heap.size + 1, 0, none⟩ = false := fun o => (K8.out.alloc o).frozen 0; have q81 : w2.cell? ⟨w1.heap.size + 1, 1, none⟩ = some (.int .u64 0) := (K8.out.cell 1).trans rfl; have f81 := K8.out.frozen 1; have qa81 : ∀ o : Obj, (w2.alloc o).cell? ⟨w1.heap.size + 1, 1, none⟩ = some (.int .u64 0) := fun o => ((K8.out.alloc o).cell 1).trans rfl; have fa81 : ∀ o : Obj, (w2.alloc o).frozen? ⟨w1.heap.size + 1, 1, none⟩ = false := fun o => (K8.out.alloc o).frozen 1; have q82 : w2.cell? ⟨w1.heap.size + 1, 2, none⟩ = some (.int .u64 0) := (K8.out.cell 2).trans rfl; have f82 := K8.out.frozen 2; have qa82 : ∀ o : Obj, (w2.alloc o).cell? ⟨w1.heap.size + 1, 2, none⟩ = some (.int .u64 0) := fun o => ((K8.out.alloc o).cell 2).trans rfl; have fa82 : ∀ o : Obj, (w2.alloc o).frozen? ⟨w1.heap.size + 1, 2, none⟩ = false := fun o => (K8.out.alloc o).frozen 2; have q83 : w2.cell? ⟨w1.heap.size + 1, 3, none⟩ = some (.int .u64 0) := (K8.out.cell 3).trans rfl; have f83 := K8.out.frozen 3; have qa83 : ∀ o : Obj, (w2.alloc o).cell? ⟨w1.heap.size + 1, 3, none⟩ = some (.int .u64 0) := fun o => ((K8.out.alloc o).cell 3).trans rfl; have fa83 : ∀ o : Obj, (w2.alloc o).frozen? ⟨w1.heap.size + 1, 3, none⟩ = false := fun o => (K8.out.alloc o).frozen 3; have e8 : ¬ w1.heap.size + 1 = w2.heap.size := (by omega); have e8' : ¬ w2.heap.size = w1.heap.size + 1 := (by omega)) | skip); clear hE))
    all_goals (go_wp2_with fail; go_meet)
    all_goals first | with_reducible exact ntwoBox_nn _ _ _ _ _ _ _ _ HE2.out | with_reducible exact ntwoBox_nn' _ _ _ _ _ _ _ _ HE2.out | with_reducible exact ntwoBox_on _ _ _ _ _ _ _ _ K5.out (by omega) HE2.out | with_reducible exact ntwoBox_no _ _ _ _ _ _ _ _ K5.out (by omega) HE2.out | with_reducible exact ntwoBox_on _ _ _ _ _ _ _ _ K7.out (by omega) HE2.out | with_reducible exact ntwoBox_no _ _ _ _ _ _ _ _ K7.out (by omega) HE2.out | with_reducible exact ntwoBox_oo _ _ _ _ _ _ _ _ K5.out K7.out (by omega) (by omega) (by omega) HE2.out | with_reducible exact ntwoBox_oo _ _ _ _ _ _ _ _ K7.out K5.out (by omega) (by omega) (by omega) HE2.out | with_reducible exact ntwoBox_oo _ _ _ _ _ _ _ _ K5.out K6.out (by omega) (by omega) (by omega) HE2.out | with_reducible exact ntwoBox_oo _ _ _ _ _ _ _ _ K6.out K5.out (by omega) (by omega) (by omega) HE2.out | with_reducible exact ntwoBox_oo _ _ _ _ _ _ _ _ K7.out K8.out (by omega) (by omega) (by omega) HE2.out | with_reducible exact ntwoBox_oo _ _ _ _ _ _ _ _ K8.out K7.out (by omega) (by omega) (by omega) HE2.out
  case rest =>
    obtain ⟨p, g, rfl, rfl, hP, hQ, hE⟩ := hcut
    obtain ⟨p0, p1, p2, p3, lp⟩ := four_cells hP
    obtain ⟨g0, g1, g2, g3, lg⟩ := four_cells hQ
    obtain ⟨n0, _⟩ := five_cells (K0.out.ext hE)
    have HE := Lib.hid (EW.out.trans' hE)
    clear hP hQ hE c1 c2 c3 c4
    have f3 : bits .or .u64 0 0 = 0 := by decide +kernel
    have hgt : (9223372036854775808 : Int) < (q0 : Int) := by omega
    go_wp2
    go_ret3
    exact ⟨rfl, HE.out⟩
set_option maxRecDepth 100000 in
set_option maxHeartbeats 4000000 in
theorem sPartsI (M N r : Nat) (w : World)
    (hT : ∀ W, Calls Tryz.prog 57 #[.int .i64 18] W (RetE (dn N) W)) (hO : ∀ W, Calls Tryz.prog 91 #[dn M, dn N] W (RetPair (.agg #[.int .u64 9223372036854775808, .int .u64 0, .int .u64 0, .int .u64 0]) (.agg #[.int .u64 r, .int .u64 0, .int .u64 0, .int .u64 0]) W)) :
    Calls Tryz.prog 51 #[deV false M] w (RetE (.tuple #[.int .i64 0, .int .i64 0, .bool false]) w) := by
  have HT := Lib.hid hT; have HO := Lib.hid hO
  obtain ⟨W, hW⟩ : ∃ W, W = w.alloc (deBox false M) := ⟨_, rfl⟩
  have K0 := Lib.hid (show Blk W w.heap.size 39 [.bool false, dw M 0, dw M 1, dw M 2, dw M 3] by rw [hW]; exact blk_new0 w 39 [.bool false, dw M 0, dw M 1, dw M 2, dw M 3])
  have EW := Lib.hid (show Ext w W by rw [hW]; exact ext1 _ _)
  have HWW := Lib.hid hW; clear hW hT hO
  obtain ⟨c0, c1, c2, c3, c4, lc⟩ := five_cells K0.out
  have KS0 := Lib.hid (show DF4 w.heap.size (dw M 0) (dw M 1) (dw M 2) (dw M 3) W from ⟨c1, c2, c3, c4⟩)
  have KS0d := Lib.hid (show DF4 w.heap.size (dw M 0) (dw M 1) (dw M 2) (dw M 3) W.drew from KS0.out)
  clear c0
  go_enter Tryz.func51, Tryz.ntmps51
  go_upto_region 1 with fail
  rw [← HWW.out]
  go_cut [5, 6] (fun s5 s6 wx => NTwoBox 9223372036854775808 0 0 0 r 0 0 0 W s5 s6 wx)
  case first =>
    go_region_held3 (fun w' => w'.cell? ⟨w.heap.size, 1, none⟩ = some (dw M 0) ∧ w'.cell? ⟨w.heap.size, 2, none⟩ = some (dw M 1) ∧ w'.cell? ⟨w.heap.size, 3, none⟩ = some (dw M 2) ∧ w'.cell? ⟨w.heap.size, 4, none⟩ = some (dw M 3)) ((show DF4 w.heap.size (dw M 0) (dw M 1) (dw M 2) (dw M 3) _; (repeat (first | (with_reducible refine DF4.drew ?_) | (with_reducible refine DF4.alloc ?_ _) | (with_reducible refine DF4.set4 ?_ ?_; rotate_left; omega))); with_reducible first | exact KS2.out | exact KS1.out | exact KS0d.out | exact KS0.out)) (first | (go_at_call 57; (with_reducible refine (HT.out _).mono ?_); rintro e w1 ⟨rfl, hE⟩; have HE1 := Lib.hid (show Ext W w1 by with_reducible first | exact Ext.undrew hE | exact ndnE1 hE | exact ndnE2 hE); have KS1 := Lib.hid (KS0.out.ext HE1.out); have sz1 := HE1.out.size; (try ((with_reducible have KA := Lib.hid (ndnM1 hE)); have lA := KA.out.lt; have pA : ¬ W.heap.size = w1.heap.size := (by omega); have pA' : ¬ w1.heap.size = W.heap.size := (by omega))); (try ((with_reducible have KAB := ndnM2 hE); have KA := Lib.hid KAB.1; have KB := Lib.hid KAB.2; clear KAB)); clear hE c1 c2 c3 c4) | (go_at_call 91; (with_reducible refine (HO.out _).mono ?_); rintro e w2 ⟨rfl, hE⟩; have HE12 := Lib.hid (show Ext w1 w2 by with_reducible first | exact hE | exact ndnF1 hE | exact ndnF2 hE); have HE2 := Lib.hid (HE1.out.trans' HE12.out); have KS2 := Lib.hid (KS1.out.ext HE12.out); have sz2 := HE12.out.size; (try (have K5 := Lib.hid (KA.out.ext HE12.out); have l5 := K5.out.lt; have q50 : w2.cell? ⟨W.heap.size, 0, none⟩ = some (.int .u64 0) := (K5.out.cell 0).trans rfl; have f50 := K5.out.frozen 0; have qa50 : ∀ o : Obj, (w2.alloc o).cell? ⟨W.heap.size, 0, none⟩ = some (.int .u64 0) := fun o => ((K5.out.alloc o).cell 0).trans rfl; have fa50 : ∀ o : Obj, (w2.alloc o).frozen? ⟨W.heap.size, 0, none⟩ = false := fun o => (K5.out.alloc o).frozen 0; have q51 : w2.cell? ⟨W.heap.size, 1, none⟩ = some (.int .u64 0) := (K5.out.cell 1).trans rfl; have f51 := K5.out.frozen 1; have qa51 : ∀ o : Obj, (w2.alloc o).cell? ⟨W.heap.size, 1, none⟩ = some (.int .u64 0) := fun o => ((K5.out.alloc o).cell 1).trans rfl; have fa51 : ∀ o : Obj, (w2.alloc o).frozen? ⟨W.heap.size, 1, none⟩ = false := fun o => (K5.out.alloc o).frozen 1; have q52 : w2.cell? ⟨W.heap.size, 2, none⟩ = some (.int .u64 0) := (K5.out.cell 2).trans rfl; have f52 := K5.out.frozen 2; have qa52 : ∀ o : Obj, (w2.alloc o).cell? ⟨W.heap.size, 2, none⟩ = some (.int .u64 0) := fun o => ((K5.out.alloc o).cell 2).trans rfl; have fa52 : ∀ o : Obj, (w2.alloc o).frozen? ⟨W.heap.size, 2, none⟩ = false := fun o => (K5.out.alloc o).frozen 2; have q53 : w2.cell? ⟨W.heap.size, 3, none⟩ = some (.int .u64 0) := (K5.out.cell 3).trans rfl; have f53 := K5.out.frozen 3; have qa53 : ∀ o : Obj, (w2.alloc o).cell? ⟨W.heap.size, 3, none⟩ = some (.int .u64 0) := fun o => ((K5.out.alloc o).cell 3).trans rfl; have fa53 : ∀ o : Obj, (w2.alloc o).frozen? ⟨W.heap.size, 3, none⟩ = false := fun o => (K5.out.alloc o).frozen 3; have e5 : ¬ W.heap.size = w2.heap.size := (by omega); have e5' : ¬ w2.heap.size = W.heap.size := (by omega))); (try (have K6 := Lib.hid (KB.out.ext HE12.out); have l6 := K6.out.lt; have q60 : w2.cell? ⟨W.heap.size + 1, 0, none⟩ = some (.int .u64 0) := (K6.out.cell 0).trans rfl; have f60 := K6.out.frozen 0; have qa60 : ∀ o : Obj, (w2.alloc o).cell? ⟨W.heap.size + 1, 0, none⟩ = some (.int .u64 0) := fun o => ((K6.out.alloc o).cell 0).trans rfl; have fa60 : ∀ o : Obj, (w2.alloc o).frozen? ⟨W.heap.size + 1, 0, none⟩ = false := fun o => (K6.out.alloc o).frozen 0; have q61 : w2.cell? ⟨W.heap.size + 1, 1, none⟩ = some (.int .u64 0) := (K6.out.cell 1).trans rfl; have f61 := K6.out.frozen 1; have qa61 : ∀ o : Obj, (w2.alloc o).cell? ⟨W.heap.size + 1, 1, none⟩ = some (.int .u64 0) := fun o => ((K6.out.alloc o).cell 1).trans rfl; have fa61 : ∀ o : Obj, (w2.alloc o).frozen? ⟨W.heap.size + 1, 1, none⟩ = false := fun o => (K6.out.alloc o).frozen 1; have q62 : w2.cell? ⟨W.heap.size + 1, 2, none⟩ = some (.int .u64 0) := (K6.out.cell 2).trans rfl; have f62 := K6.out.frozen 2; have qa62 : ∀ o : Obj, (w2.alloc o).cell? ⟨W.heap.size + 1, 2, none⟩ = some (.int .u64 0) := fun o => ((K6.out.alloc o).cell 2).trans rfl; have fa62 : ∀ o : Obj, (w2.alloc o).frozen? ⟨W.heap.size + 1, 2, none⟩ = false := fun o => (K6.out.alloc o).frozen 2; have q63 : w2.cell? ⟨W.heap.size + 1, 3, none⟩ = some (.int .u64 0) := (K6.out.cell 3).trans rfl; have f63 := K6.out.frozen 3; have qa63 : ∀ o : Obj, (w2.alloc o).cell? ⟨W.heap.size + 1, 3, none⟩ = some (.int .u64 0) := fun o => ((K6.out.alloc o).cell 3).trans rfl; have fa63 : ∀ o : Obj, (w2.alloc o).frozen? ⟨W.heap.size + 1, 3, none⟩ = false := fun o => (K6.out.alloc o).frozen 3; have e6 : ¬ W.heap.size + 1 = w2.heap.size := (by omega); have e6' : ¬ w2.heap.size = W.heap.size + 1 := (by omega))); (first | ((with_reducible have K7 := Lib.hid (ndnN1 hE)); have l7 := K7.out.lt; have q70 : w2.cell? ⟨w1.heap.size, 0, none⟩ = some (.int .u64 0) := (K7.out.cell 0).trans rfl; have f70 := K7.out.frozen 0; have qa70 : ∀ o : Obj, (w2.alloc o).cell? ⟨w1.heap.size, 0, none⟩ = some (.int .u64 0) := fun o => ((K7.out.alloc o).cell 0).trans rfl; have fa70 : ∀ o : Obj, (w2.alloc o).frozen? ⟨w1.heap.size, 0, none⟩ = false := fun o => (K7.out.alloc o).frozen 0; have q71 : w2.cell? ⟨w1.heap.size, 1, none⟩ = some (.int .u64 0) := (K7.out.cell 1).trans rfl; have f71 := K7.out.frozen 1; have qa71 : ∀ o : Obj, (w2.alloc o).cell? ⟨w1.heap.size, 1, none⟩ = some (.int .u64 0) := fun o => ((K7.out.alloc o).cell 1).trans rfl; have fa71 : ∀ o : Obj, (w2.alloc o).frozen? ⟨w1.heap.size, 1, none⟩ = false := fun o => (K7.out.alloc o).frozen 1; have q72 : w2.cell? ⟨w1.heap.size, 2, none⟩ = some (.int .u64 0) := (K7.out.cell 2).trans rfl; have f72 := K7.out.frozen 2; have qa72 : ∀ o : Obj, (w2.alloc o).cell? ⟨w1.heap.size, 2, none⟩ = some (.int .u64 0) := fun o => ((K7.out.alloc o).cell 2).trans rfl; have fa72 : ∀ o : Obj, (w2.alloc o).frozen? ⟨w1.heap.size, 2, none⟩ = false := fun o => (K7.out.alloc o).frozen 2; have q73 : w2.cell? ⟨w1.heap.size, 3, none⟩ = some (.int .u64 0) := (K7.out.cell 3).trans rfl; have f73 := K7.out.frozen 3; have qa73 : ∀ o : Obj, (w2.alloc o).cell? ⟨w1.heap.size, 3, none⟩ = some (.int .u64 0) := fun o => ((K7.out.alloc o).cell 3).trans rfl; have fa73 : ∀ o : Obj, (w2.alloc o).frozen? ⟨w1.heap.size, 3, none⟩ = false := fun o => (K7.out.alloc o).frozen 3; have e7 : ¬ w1.heap.size = w2.heap.size := (by omega); have e7' : ¬ w2.heap.size = w1.heap.size := (by omega)) | ((with_reducible have K78 := ndnN2 hE); have K7 := Lib.hid K78.1; have K8 := Lib.hid K78.2; clear K78; have l7 := K7.out.lt; have q70 : w2.cell? ⟨w1.heap.size, 0, none⟩ = some (.int .u64 0) := (K7.out.cell 0).trans rfl; have f70 := K7.out.frozen 0; have qa70 : ∀ o : Obj, (w2.alloc o).cell? ⟨w1.heap.size, 0, none⟩ = some (.int .u64 0) := fun o => ((K7.out.alloc o).cell 0).trans rfl; have fa70 : ∀ o : Obj, (w2.alloc o).frozen? ⟨w1.heap.size, 0, none⟩ = false := fun o => (K7.out.alloc o).frozen 0; have q71 : w2.cell? ⟨w1.heap.size, 1, none⟩ = some (.int .u64 0) := (K7.out.cell 1).trans rfl; have f71 := K7.out.frozen 1; have qa71 : ∀ o : Obj, (w2.alloc o).cell? ⟨w1.heap.size, 1, none⟩ = some (.int .u64 0) := fun o => ((K7.out.alloc o).cell 1).trans rfl; have fa71 : ∀ o : Obj, (w2.alloc o).frozen? ⟨w1.heap.size, 1, none⟩ = false := fun o => (K7.out.alloc o).frozen 1; have q72 : w2.cell? ⟨w1.heap.size, 2, none⟩ = some (.int .u64 0) := (K7.out.cell 2).trans rfl; have f72 := K7.out.frozen 2; have qa72 : ∀ o : Obj, (w2.alloc o).cell? ⟨w1.heap.size, 2, none⟩ = some (.int .u64 0) := fun o => ((K7.out.alloc o).cell 2).trans rfl; have fa72 : ∀ o : Obj, (w2.alloc o).frozen? ⟨w1.heap.size, 2, none⟩ = false := fun o => (K7.out.alloc o).frozen 2; have q73 : w2.cell? ⟨w1.heap.size, 3, none⟩ = some (.int .u64 0) := (K7.out.cell 3).trans rfl; have f73 := K7.out.frozen 3; have qa73 : ∀ o : Obj, (w2.alloc o).cell? ⟨w1.heap.size, 3, none⟩ = some (.int .u64 0) := fun o => ((K7.out.alloc o).cell 3).trans rfl; have fa73 : ∀ o : Obj, (w2.alloc o).frozen? ⟨w1.heap.size, 3, none⟩ = false := fun o => (K7.out.alloc o).frozen 3; have e7 : ¬ w1.heap.size = w2.heap.size := (by omega); have e7' : ¬ w2.heap.size = w1.heap.size := (by omega); have l8 := K8.out.lt; have q80 : w2.cell? ⟨w1.heap.size + 1, 0, none⟩ = some (.int .u64 0) := (K8.out.cell 0).trans rfl; have f80 := K8.out.frozen 0; have qa80 : ∀ o : Obj, (w2.alloc o).cell? ⟨w1.heap.size + 1, 0, none⟩ = some (.int .u64 0) := fun o => ((K8.out.alloc o).cell 0).trans rfl; have fa80 : ∀ o : Obj, (w2.alloc o).frozen? ⟨w1.heap.size + 1, 0, none⟩ = false := fun o => (K8.out.alloc o).frozen 0; have q81 : w2.cell? ⟨w1.heap.size + 1, 1, none⟩ = some (.int .u64 0) := (K8.out.cell 1).trans rfl; have f81 := K8.out.frozen 1; have qa81 : ∀ o : Obj, (w2.alloc o).cell? ⟨w1.heap.size + 1, 1, none⟩ = some (.int .u64 0) := fun o => ((K8.out.alloc o).cell 1).trans rfl; have fa81 : ∀ o : Obj, (w2.alloc o).frozen? ⟨w1.heap.size + 1, 1, none⟩ = false := fun o => (K8.out.alloc o).frozen 1; have q82 : w2.cell? ⟨w1.heap.size + 1, 2, none⟩ = some (.int .u64 0) := (K8.out.cell 2).trans rfl; have f82 := K8.out.frozen 2; have qa82 : ∀ o : Obj, (w2.alloc o).cell? ⟨w1.heap.size + 1, 2, none⟩ = some (.int .u64 0) := fun o => ((K8.out.alloc o).cell 2).trans rfl; have fa82 : ∀ o : Obj, (w2.alloc o).frozen? ⟨w1.heap.size + 1, 2, none⟩ = false := fun o => (K8.out.alloc o).frozen 2; have q83 : w2.cell? ⟨w1.heap.size + 1, 3, none⟩ = some (.int .u64 0) := (K8.out.cell 3).trans rfl; have f83 := K8.out.frozen 3; have qa83 : ∀ o : Obj, (w2.alloc o).cell? ⟨w1.heap.size + 1, 3, none⟩ = some (.int .u64 0) := fun o => ((K8.out.alloc o).cell 3).trans rfl; have fa83 : ∀ o : Obj, (w2.alloc o).frozen? ⟨w1.heap.size + 1, 3, none⟩ = false := fun o => (K8.out.alloc o).frozen 3; have e8 : ¬ w1.heap.size + 1 = w2.heap.size := (by omega); have e8' : ¬ w2.heap.size = w1.heap.size + 1 := (by omega)) | skip); clear hE))
    all_goals (go_wp2_with fail; go_meet)
    all_goals first | with_reducible exact ntwoBox_nn _ _ _ _ _ _ _ _ HE2.out | with_reducible exact ntwoBox_nn' _ _ _ _ _ _ _ _ HE2.out | with_reducible exact ntwoBox_on _ _ _ _ _ _ _ _ K5.out (by omega) HE2.out | with_reducible exact ntwoBox_no _ _ _ _ _ _ _ _ K5.out (by omega) HE2.out | with_reducible exact ntwoBox_on _ _ _ _ _ _ _ _ K7.out (by omega) HE2.out | with_reducible exact ntwoBox_no _ _ _ _ _ _ _ _ K7.out (by omega) HE2.out | with_reducible exact ntwoBox_oo _ _ _ _ _ _ _ _ K5.out K7.out (by omega) (by omega) (by omega) HE2.out | with_reducible exact ntwoBox_oo _ _ _ _ _ _ _ _ K7.out K5.out (by omega) (by omega) (by omega) HE2.out | with_reducible exact ntwoBox_oo _ _ _ _ _ _ _ _ K5.out K6.out (by omega) (by omega) (by omega) HE2.out | with_reducible exact ntwoBox_oo _ _ _ _ _ _ _ _ K6.out K5.out (by omega) (by omega) (by omega) HE2.out | with_reducible exact ntwoBox_oo _ _ _ _ _ _ _ _ K7.out K8.out (by omega) (by omega) (by omega) HE2.out | with_reducible exact ntwoBox_oo _ _ _ _ _ _ _ _ K8.out K7.out (by omega) (by omega) (by omega) HE2.out
  case rest =>
    obtain ⟨p, g, rfl, rfl, hP, hQ, hE⟩ := hcut
    obtain ⟨p0, p1, p2, p3, lp⟩ := four_cells hP
    obtain ⟨g0, g1, g2, g3, lg⟩ := four_cells hQ
    obtain ⟨n0, _⟩ := five_cells (K0.out.ext hE)
    have HE := Lib.hid (EW.out.trans' hE)
    clear hP hQ hE c1 c2 c3 c4
    have f3 : bits .or .u64 0 0 = 0 := by decide +kernel
    go_wp2
    go_ret3
    exact ⟨rfl, HE.out⟩
set_option maxRecDepth 100000 in
set_option maxHeartbeats 4000000 in
theorem sPartsM (M N r : Nat) (w : World) (hr : r < 1000000000000000000)
    (hT : ∀ W, Calls Tryz.prog 57 #[.int .i64 18] W (RetE (dn N) W)) (hO : ∀ W, Calls Tryz.prog 91 #[dn M, dn N] W (RetPair (.agg #[.int .u64 9223372036854775808, .int .u64 0, .int .u64 0, .int .u64 0]) (.agg #[.int .u64 r, .int .u64 0, .int .u64 0, .int .u64 0]) W)) :
    Calls Tryz.prog 51 #[deV true M] w (RetE (.tuple #[.int .i64 (-9223372036854775808), .int .i64 (-(r : Int)), .bool true]) w) := by
  have HT := Lib.hid hT; have HO := Lib.hid hO
  obtain ⟨W, hW⟩ : ∃ W, W = w.alloc (deBox true M) := ⟨_, rfl⟩
  have K0 := Lib.hid (show Blk W w.heap.size 39 [.bool true, dw M 0, dw M 1, dw M 2, dw M 3] by rw [hW]; exact blk_new0 w 39 [.bool true, dw M 0, dw M 1, dw M 2, dw M 3])
  have EW := Lib.hid (show Ext w W by rw [hW]; exact ext1 _ _)
  have HWW := Lib.hid hW; clear hW hT hO
  obtain ⟨c0, c1, c2, c3, c4, lc⟩ := five_cells K0.out
  have KS0 := Lib.hid (show DF4 w.heap.size (dw M 0) (dw M 1) (dw M 2) (dw M 3) W from ⟨c1, c2, c3, c4⟩)
  have KS0d := Lib.hid (show DF4 w.heap.size (dw M 0) (dw M 1) (dw M 2) (dw M 3) W.drew from KS0.out)
  clear c0
  go_enter Tryz.func51, Tryz.ntmps51
  go_upto_region 1 with fail
  rw [← HWW.out]
  go_cut [5, 6] (fun s5 s6 wx => NTwoBox 9223372036854775808 0 0 0 r 0 0 0 W s5 s6 wx)
  case first =>
    go_region_held3 (fun w' => w'.cell? ⟨w.heap.size, 1, none⟩ = some (dw M 0) ∧ w'.cell? ⟨w.heap.size, 2, none⟩ = some (dw M 1) ∧ w'.cell? ⟨w.heap.size, 3, none⟩ = some (dw M 2) ∧ w'.cell? ⟨w.heap.size, 4, none⟩ = some (dw M 3)) ((show DF4 w.heap.size (dw M 0) (dw M 1) (dw M 2) (dw M 3) _; (repeat (first | (with_reducible refine DF4.drew ?_) | (with_reducible refine DF4.alloc ?_ _) | (with_reducible refine DF4.set4 ?_ ?_; rotate_left; omega))); with_reducible first | exact KS2.out | exact KS1.out | exact KS0d.out | exact KS0.out)) (first | (go_at_call 57; (with_reducible refine (HT.out _).mono ?_); rintro e w1 ⟨rfl, hE⟩; have HE1 := Lib.hid (show Ext W w1 by with_reducible first | exact Ext.undrew hE | exact ndnE1 hE | exact ndnE2 hE); have KS1 := Lib.hid (KS0.out.ext HE1.out); have sz1 := HE1.out.size; (try ((with_reducible have KA := Lib.hid (ndnM1 hE)); have lA := KA.out.lt; have pA : ¬ W.heap.size = w1.heap.size := (by omega); have pA' : ¬ w1.heap.size = W.heap.size := (by omega))); (try ((with_reducible have KAB := ndnM2 hE); have KA := Lib.hid KAB.1; have KB := Lib.hid KAB.2; clear KAB)); clear hE c1 c2 c3 c4) | (go_at_call 91; (with_reducible refine (HO.out _).mono ?_); rintro e w2 ⟨rfl, hE⟩; have HE12 := Lib.hid (show Ext w1 w2 by with_reducible first | exact hE | exact ndnF1 hE | exact ndnF2 hE); have HE2 := Lib.hid (HE1.out.trans' HE12.out); have KS2 := Lib.hid (KS1.out.ext HE12.out); have sz2 := HE12.out.size; (try (have K5 := Lib.hid (KA.out.ext HE12.out); have l5 := K5.out.lt; have q50 : w2.cell? ⟨W.heap.size, 0, none⟩ = some (.int .u64 0) := (K5.out.cell 0).trans rfl; have f50 := K5.out.frozen 0; have qa50 : ∀ o : Obj, (w2.alloc o).cell? ⟨W.heap.size, 0, none⟩ = some (.int .u64 0) := fun o => ((K5.out.alloc o).cell 0).trans rfl; have fa50 : ∀ o : Obj, (w2.alloc o).frozen? ⟨W.heap.size, 0, none⟩ = false := fun o => (K5.out.alloc o).frozen 0; have q51 : w2.cell? ⟨W.heap.size, 1, none⟩ = some (.int .u64 0) := (K5.out.cell 1).trans rfl; have f51 := K5.out.frozen 1; have qa51 : ∀ o : Obj, (w2.alloc o).cell? ⟨W.heap.size, 1, none⟩ = some (.int .u64 0) := fun o => ((K5.out.alloc o).cell 1).trans rfl; have fa51 : ∀ o : Obj, (w2.alloc o).frozen? ⟨W.heap.size, 1, none⟩ = false := fun o => (K5.out.alloc o).frozen 1; have q52 : w2.cell? ⟨W.heap.size, 2, none⟩ = some (.int .u64 0) := (K5.out.cell 2).trans rfl; have f52 := K5.out.frozen 2; have qa52 : ∀ o : Obj, (w2.alloc o).cell? ⟨W.heap.size, 2, none⟩ = some (.int .u64 0) := fun o => ((K5.out.alloc o).cell 2).trans rfl; have fa52 : ∀ o : Obj, (w2.alloc o).frozen? ⟨W.heap.size, 2, none⟩ = false := fun o => (K5.out.alloc o).frozen 2; have q53 : w2.cell? ⟨W.heap.size, 3, none⟩ = some (.int .u64 0) := (K5.out.cell 3).trans rfl; have f53 := K5.out.frozen 3; have qa53 : ∀ o : Obj, (w2.alloc o).cell? ⟨W.heap.size, 3, none⟩ = some (.int .u64 0) := fun o => ((K5.out.alloc o).cell 3).trans rfl; have fa53 : ∀ o : Obj, (w2.alloc o).frozen? ⟨W.heap.size, 3, none⟩ = false := fun o => (K5.out.alloc o).frozen 3; have e5 : ¬ W.heap.size = w2.heap.size := (by omega); have e5' : ¬ w2.heap.size = W.heap.size := (by omega))); (try (have K6 := Lib.hid (KB.out.ext HE12.out); have l6 := K6.out.lt; have q60 : w2.cell? ⟨W.heap.size + 1, 0, none⟩ = some (.int .u64 0) := (K6.out.cell 0).trans rfl; have f60 := K6.out.frozen 0; have qa60 : ∀ o : Obj, (w2.alloc o).cell? ⟨W.heap.size + 1, 0, none⟩ = some (.int .u64 0) := fun o => ((K6.out.alloc o).cell 0).trans rfl; have fa60 : ∀ o : Obj, (w2.alloc o).frozen? ⟨W.heap.size + 1, 0, none⟩ = false := fun o => (K6.out.alloc o).frozen 0; have q61 : w2.cell? ⟨W.heap.size + 1, 1, none⟩ = some (.int .u64 0) := (K6.out.cell 1).trans rfl; have f61 := K6.out.frozen 1; have qa61 : ∀ o : Obj, (w2.alloc o).cell? ⟨W.heap.size + 1, 1, none⟩ = some (.int .u64 0) := fun o => ((K6.out.alloc o).cell 1).trans rfl; have fa61 : ∀ o : Obj, (w2.alloc o).frozen? ⟨W.heap.size + 1, 1, none⟩ = false := fun o => (K6.out.alloc o).frozen 1; have q62 : w2.cell? ⟨W.heap.size + 1, 2, none⟩ = some (.int .u64 0) := (K6.out.cell 2).trans rfl; have f62 := K6.out.frozen 2; have qa62 : ∀ o : Obj, (w2.alloc o).cell? ⟨W.heap.size + 1, 2, none⟩ = some (.int .u64 0) := fun o => ((K6.out.alloc o).cell 2).trans rfl; have fa62 : ∀ o : Obj, (w2.alloc o).frozen? ⟨W.heap.size + 1, 2, none⟩ = false := fun o => (K6.out.alloc o).frozen 2; have q63 : w2.cell? ⟨W.heap.size + 1, 3, none⟩ = some (.int .u64 0) := (K6.out.cell 3).trans rfl; have f63 := K6.out.frozen 3; have qa63 : ∀ o : Obj, (w2.alloc o).cell? ⟨W.heap.size + 1, 3, none⟩ = some (.int .u64 0) := fun o => ((K6.out.alloc o).cell 3).trans rfl; have fa63 : ∀ o : Obj, (w2.alloc o).frozen? ⟨W.heap.size + 1, 3, none⟩ = false := fun o => (K6.out.alloc o).frozen 3; have e6 : ¬ W.heap.size + 1 = w2.heap.size := (by omega); have e6' : ¬ w2.heap.size = W.heap.size + 1 := (by omega))); (first | ((with_reducible have K7 := Lib.hid (ndnN1 hE)); have l7 := K7.out.lt; have q70 : w2.cell? ⟨w1.heap.size, 0, none⟩ = some (.int .u64 0) := (K7.out.cell 0).trans rfl; have f70 := K7.out.frozen 0; have qa70 : ∀ o : Obj, (w2.alloc o).cell? ⟨w1.heap.size, 0, none⟩ = some (.int .u64 0) := fun o => ((K7.out.alloc o).cell 0).trans rfl; have fa70 : ∀ o : Obj, (w2.alloc o).frozen? ⟨w1.heap.size, 0, none⟩ = false := fun o => (K7.out.alloc o).frozen 0; have q71 : w2.cell? ⟨w1.heap.size, 1, none⟩ = some (.int .u64 0) := (K7.out.cell 1).trans rfl; have f71 := K7.out.frozen 1; have qa71 : ∀ o : Obj, (w2.alloc o).cell? ⟨w1.heap.size, 1, none⟩ = some (.int .u64 0) := fun o => ((K7.out.alloc o).cell 1).trans rfl; have fa71 : ∀ o : Obj, (w2.alloc o).frozen? ⟨w1.heap.size, 1, none⟩ = false := fun o => (K7.out.alloc o).frozen 1; have q72 : w2.cell? ⟨w1.heap.size, 2, none⟩ = some (.int .u64 0) := (K7.out.cell 2).trans rfl; have f72 := K7.out.frozen 2; have qa72 : ∀ o : Obj, (w2.alloc o).cell? ⟨w1.heap.size, 2, none⟩ = some (.int .u64 0) := fun o => ((K7.out.alloc o).cell 2).trans rfl; have fa72 : ∀ o : Obj, (w2.alloc o).frozen? ⟨w1.heap.size, 2, none⟩ = false := fun o => (K7.out.alloc o).frozen 2; have q73 : w2.cell? ⟨w1.heap.size, 3, none⟩ = some (.int .u64 0) := (K7.out.cell 3).trans rfl; have f73 := K7.out.frozen 3; have qa73 : ∀ o : Obj, (w2.alloc o).cell? ⟨w1.heap.size, 3, none⟩ = some (.int .u64 0) := fun o => ((K7.out.alloc o).cell 3).trans rfl; have fa73 : ∀ o : Obj, (w2.alloc o).frozen? ⟨w1.heap.size, 3, none⟩ = false := fun o => (K7.out.alloc o).frozen 3; have e7 : ¬ w1.heap.size = w2.heap.size := (by omega); have e7' : ¬ w2.heap.size = w1.heap.size := (by omega)) | ((with_reducible have K78 := ndnN2 hE); have K7 := Lib.hid K78.1; have K8 := Lib.hid K78.2; clear K78; have l7 := K7.out.lt; have q70 : w2.cell? ⟨w1.heap.size, 0, none⟩ = some (.int .u64 0) := (K7.out.cell 0).trans rfl; have f70 := K7.out.frozen 0; have qa70 : ∀ o : Obj, (w2.alloc o).cell? ⟨w1.heap.size, 0, none⟩ = some (.int .u64 0) := fun o => ((K7.out.alloc o).cell 0).trans rfl; have fa70 : ∀ o : Obj, (w2.alloc o).frozen? ⟨w1.heap.size, 0, none⟩ = false := fun o => (K7.out.alloc o).frozen 0; have q71 : w2.cell? ⟨w1.heap.size, 1, none⟩ = some (.int .u64 0) := (K7.out.cell 1).trans rfl; have f71 := K7.out.frozen 1; have qa71 : ∀ o : Obj, (w2.alloc o).cell? ⟨w1.heap.size, 1, none⟩ = some (.int .u64 0) := fun o => ((K7.out.alloc o).cell 1).trans rfl; have fa71 : ∀ o : Obj, (w2.alloc o).frozen? ⟨w1.heap.size, 1, none⟩ = false := fun o => (K7.out.alloc o).frozen 1; have q72 : w2.cell? ⟨w1.heap.size, 2, none⟩ = some (.int .u64 0) := (K7.out.cell 2).trans rfl; have f72 := K7.out.frozen 2; have qa72 : ∀ o : Obj, (w2.alloc o).cell? ⟨w1.heap.size, 2, none⟩ = some (.int .u64 0) := fun o => ((K7.out.alloc o).cell 2).trans rfl; have fa72 : ∀ o : Obj, (w2.alloc o).frozen? ⟨w1.heap.size, 2, none⟩ = false := fun o => (K7.out.alloc o).frozen 2; have q73 : w2.cell? ⟨w1.heap.size, 3, none⟩ = some (.int .u64 0) := (K7.out.cell 3).trans rfl; have f73 := K7.out.frozen 3; have qa73 : ∀ o : Obj, (w2.alloc o).cell? ⟨w1.heap.size, 3, none⟩ = some (.int .u64 0) := fun o => ((K7.out.alloc o).cell 3).trans rfl; have fa73 : ∀ o : Obj, (w2.alloc o).frozen? ⟨w1.heap.size, 3, none⟩ = false := fun o => (K7.out.alloc o).frozen 3; have e7 : ¬ w1.heap.size = w2.heap.size := (by omega); have e7' : ¬ w2.heap.size = w1.heap.size := (by omega); have l8 := K8.out.lt; have q80 : w2.cell? ⟨w1.heap.size + 1, 0, none⟩ = some (.int .u64 0) := (K8.out.cell 0).trans rfl; have f80 := K8.out.frozen 0; have qa80 : ∀ o : Obj, (w2.alloc o).cell? ⟨w1.heap.size + 1, 0, none⟩ = some (.int .u64 0) := fun o => ((K8.out.alloc o).cell 0).trans rfl; have fa80 : ∀ o : Obj, (w2.alloc o).frozen? ⟨w1.heap.size + 1, 0, none⟩ = false := fun o => (K8.out.alloc o).frozen 0; have q81 : w2.cell? ⟨w1.heap.size + 1, 1, none⟩ = some (.int .u64 0) := (K8.out.cell 1).trans rfl; have f81 := K8.out.frozen 1; have qa81 : ∀ o : Obj, (w2.alloc o).cell? ⟨w1.heap.size + 1, 1, none⟩ = some (.int .u64 0) := fun o => ((K8.out.alloc o).cell 1).trans rfl; have fa81 : ∀ o : Obj, (w2.alloc o).frozen? ⟨w1.heap.size + 1, 1, none⟩ = false := fun o => (K8.out.alloc o).frozen 1; have q82 : w2.cell? ⟨w1.heap.size + 1, 2, none⟩ = some (.int .u64 0) := (K8.out.cell 2).trans rfl; have f82 := K8.out.frozen 2; have qa82 : ∀ o : Obj, (w2.alloc o).cell? ⟨w1.heap.size + 1, 2, none⟩ = some (.int .u64 0) := fun o => ((K8.out.alloc o).cell 2).trans rfl; have fa82 : ∀ o : Obj, (w2.alloc o).frozen? ⟨w1.heap.size + 1, 2, none⟩ = false := fun o => (K8.out.alloc o).frozen 2; have q83 : w2.cell? ⟨w1.heap.size + 1, 3, none⟩ = some (.int .u64 0) := (K8.out.cell 3).trans rfl; have f83 := K8.out.frozen 3; have qa83 : ∀ o : Obj, (w2.alloc o).cell? ⟨w1.heap.size + 1, 3, none⟩ = some (.int .u64 0) := fun o => ((K8.out.alloc o).cell 3).trans rfl; have fa83 : ∀ o : Obj, (w2.alloc o).frozen? ⟨w1.heap.size + 1, 3, none⟩ = false := fun o => (K8.out.alloc o).frozen 3; have e8 : ¬ w1.heap.size + 1 = w2.heap.size := (by omega); have e8' : ¬ w2.heap.size = w1.heap.size + 1 := (by omega)) | skip); clear hE))
    all_goals (go_wp2_with fail; go_meet)
    all_goals first | with_reducible exact ntwoBox_nn _ _ _ _ _ _ _ _ HE2.out | with_reducible exact ntwoBox_nn' _ _ _ _ _ _ _ _ HE2.out | with_reducible exact ntwoBox_on _ _ _ _ _ _ _ _ K5.out (by omega) HE2.out | with_reducible exact ntwoBox_no _ _ _ _ _ _ _ _ K5.out (by omega) HE2.out | with_reducible exact ntwoBox_on _ _ _ _ _ _ _ _ K7.out (by omega) HE2.out | with_reducible exact ntwoBox_no _ _ _ _ _ _ _ _ K7.out (by omega) HE2.out | with_reducible exact ntwoBox_oo _ _ _ _ _ _ _ _ K5.out K7.out (by omega) (by omega) (by omega) HE2.out | with_reducible exact ntwoBox_oo _ _ _ _ _ _ _ _ K7.out K5.out (by omega) (by omega) (by omega) HE2.out | with_reducible exact ntwoBox_oo _ _ _ _ _ _ _ _ K5.out K6.out (by omega) (by omega) (by omega) HE2.out | with_reducible exact ntwoBox_oo _ _ _ _ _ _ _ _ K6.out K5.out (by omega) (by omega) (by omega) HE2.out | with_reducible exact ntwoBox_oo _ _ _ _ _ _ _ _ K7.out K8.out (by omega) (by omega) (by omega) HE2.out | with_reducible exact ntwoBox_oo _ _ _ _ _ _ _ _ K8.out K7.out (by omega) (by omega) (by omega) HE2.out
  case rest =>
    obtain ⟨p, g, rfl, rfl, hP, hQ, hE⟩ := hcut
    obtain ⟨p0, p1, p2, p3, lp⟩ := four_cells hP
    obtain ⟨g0, g1, g2, g3, lg⟩ := four_cells hQ
    obtain ⟨n0, _⟩ := five_cells (K0.out.ext hE)
    have HE := Lib.hid (EW.out.trans' hE)
    clear hP hQ hE c1 c2 c3 c4
    have f3 : bits .or .u64 0 0 = 0 := by decide +kernel
    have v2 : IntKind.i64.wrap (r : Int) = r := IntWalk.i64_in _ (by omega)
    have v4 : IntKind.i64.wrap (-(r : Int)) = -r := IntWalk.i64_in _ (by omega)
    have h63 := w63i
    have h64 := w63j
    clear hr
    go_wp2_with fail
    go_quiet (fail)
    go_wp2
    exact bodyPost_ret (v := .tuple #[.int .i64 (-9223372036854775808), .int .i64 (-(r : Int)), .bool true]) (by simp [results, Tryz.results51, go_sem]) rfl ⟨rfl, HE.out.trans' (Ext.drewN' _ _)⟩
end Go.Proofs.YtcoffndnfaemoaaGreatDoor

namespace Go.Proofs.YtcoffndnfaemoaaGreatDoor
open Go Go.RowKit

theorem fitW_nat (z : Int) : FitW z ↔ (z < 0 ∧ z.natAbs / 10 ^ 18 ≤ 9223372036854775808) ∨ (¬ z < 0 ∧ z.natAbs / 10 ^ 18 < 9223372036854775808) := by
  unfold FitW T18
  rw [show (10 : Nat) ^ 18 = 1000000000000000000 from rfl]
  by_cases h : z < 0
  · obtain ⟨n, rfl⟩ : ∃ n : Nat, z = -(n : Int) := ⟨z.natAbs, by omega⟩
    rw [Int.natAbs_neg, Int.natAbs_natCast, Int.neg_tdiv, Int.tdiv_eq_ediv_of_nonneg (by omega)]
    omega
  · obtain ⟨n, rfl⟩ : ∃ n : Nat, z = (n : Int) := ⟨z.natAbs, by omega⟩
    rw [Int.natAbs_natCast, Int.tdiv_eq_ediv_of_nonneg (by omega)]
    omega
theorem words_high {M : Nat} (h4 : M < B64 ^ 4) (h : B64 ≤ M) : ∃ X : Int, bits .or .u64 (bits .or .u64 ((D M 1 % B64 : Nat) : Int) ((D M 2 % B64 : Nat) : Int)) ((D M 3 % B64 : Nat) : Int) = X ∧ X ≠ 0 := by
  refine ⟨_, or_words (Nat.mod_lt _ B64_pos) (Nat.mod_lt _ B64_pos) (Nat.mod_lt _ B64_pos), fun e => ?_⟩
  have e' : (D M 1 % B64 ||| D M 2 % B64) ||| D M 3 % B64 = 0 := by omega
  rw [Nat.or_eq_zero_iff, Nat.or_eq_zero_iff] at e'
  have z0 : ∀ k, D 0 k = 0 := D_zero
  have e4 : D M 4 = D 0 4 := by rw [D_four h4, z0]
  have e1 : D M 1 = D 0 1 := D_same (D_same (D_same e4 (by rw [e'.2, z0]; rfl)) (by rw [e'.1.2, z0]; rfl)) (by rw [e'.1.1, z0]; rfl)
  rw [z0] at e1
  have e1' : M / B64 = 0 := e1
  have := Nat.div_pos h B64_pos
  omega
theorem sOver18 (z : Int) (W : World) (h4 : z.natAbs < B64 ^ 4) : Calls Tryz.prog 91 #[dn z.natAbs, dn (10 ^ 18)] W (RetPair (dn (z.natAbs / 10 ^ 18)) (.agg #[.int .u64 ((z.natAbs % 10 ^ 18 : Nat) : Int), .int .u64 0, .int .u64 0, .int .u64 0]) W) := by
  have e2 := dw_small (M := z.natAbs % 10 ^ 18) (by unfold B64; omega)
  rw [← dn_of e2.1 e2.2.1 e2.2.2.1 e2.2.2.2]
  exact nOver _ _ W h4 (by decide) (by unfold B64; decide)
theorem sPartsW (z : Int) (w : World) (hz : FitW z) (h4 : z.natAbs < B64 ^ 4) : Calls Tryz.prog 51 #[de z] w (RetE (.tuple #[.int .i64 (z.tdiv T18), .int .i64 (z.tmod T18), .bool true]) w) := by
  have h18 : (10 : Nat) ^ 18 = 1000000000000000000 := rfl
  by_cases hf : FitT z
  · exact sParts z w hf
  · have hw := (fitW_nat z).1 hz
    unfold FitT at hf
    rw [h18] at hw
    have hneg : z < 0 := by omega
    have hq : z.natAbs / 10 ^ 18 = 9223372036854775808 := by rw [h18]; omega
    have hO := fun W => sOver18 z W h4
    rw [hq] at hO
    have e1 := dw_small (M := 9223372036854775808) (by unfold B64; omega)
    rw [dn_of e1.1 e1.2.1 e1.2.2.1 e1.2.2.2] at hO
    obtain ⟨n, rfl⟩ : ∃ n : Nat, z = -(n : Int) := ⟨z.natAbs, by omega⟩
    have ed : Int.tdiv (-(n : Int)) T18 = -9223372036854775808 := by
      unfold T18; rw [Int.natAbs_neg, Int.natAbs_natCast, h18] at hq
      rw [Int.neg_tdiv, Int.tdiv_eq_ediv_of_nonneg (by omega)]; omega
    have em : Int.tmod (-(n : Int)) T18 = -(((-(n : Int)).natAbs % 10 ^ 18 : Nat) : Int) := by
      unfold T18; rw [Int.natAbs_neg, Int.natAbs_natCast, h18, Int.neg_tmod, Int.tmod_eq_emod_of_nonneg (by omega)]; omega
    rw [ed, em, de_neg hneg]
    exact sPartsM _ _ _ w (by rw [h18]; omega) (fun W => sTen 18 W (by omega)) hO
theorem sPartsB (z : Int) (w : World) (hz : ¬ FitW z) (h4 : z.natAbs < B64 ^ 4) : Calls Tryz.prog 51 #[de z] w (RetE (.tuple #[.int .i64 0, .int .i64 0, .bool false]) w) := by
  rw [fitW_nat] at hz
  have hO := fun W => sOver18 z W h4
  have hT := fun W => sTen 18 W (by omega)
  obtain ⟨q, hq⟩ : ∃ q, q = z.natAbs / 10 ^ 18 := ⟨_, rfl⟩
  rw [← hq] at hO hz
  have hq4 : q < B64 ^ 4 := Nat.lt_of_le_of_lt (by rw [hq]; exact Nat.div_le_self _ _) h4
  by_cases hs : q < B64
  · have e1 := dw_small hs
    rw [dn_of e1.1 e1.2.1 e1.2.2.1 e1.2.2.2] at hO
    by_cases hgt : 9223372036854775808 < q
    · exact sPartsH _ _ _ _ q w hgt hT hO
    · have hneg : ¬ z < 0 := by omega
      obtain rfl : q = 9223372036854775808 := by omega
      rw [de_pos hneg]
      exact sPartsI _ _ _ w hT hO
  · exact sPartsX _ _ _ _ _ _ _ _ w (words_high hq4 (by omega)) hT hO

set_option maxRecDepth 100000 in
set_option maxHeartbeats 2000000 in
theorem lIsAllW (A B : Option Addr) (n c d : Nat) (zs : List (ByteArray × Int)) (w : World) (hl : zs.length = n) (hn : n ≤ 1000000) (hA : DPlainAt w A (zs.map dback)) (hB : DeAt w B zs) (hz : ∀ x ∈ zs, FitW x.2 ∧ x.2.natAbs < B64 ^ 4) :
    Calls Tryz.prog 17 #[.slice A n c, .bool true, .slice B n d] w (RetE (.bool true) w) := by
  have HL := Lib.hid hl; have HA := Lib.hid hA; have HB := Lib.hid hB; have HZ := Lib.hid hz
  clear hl hA hB hz
  go_enter Tryz.func17, Tryz.ntmps17
  go_wp2
  go_loopw [19] (fun i wr => ∃ (k : Nat), k ≤ n ∧ i = .int .i64 k ∧ Ext w wr) (fun i _ => n - (intOf i).toNat)
  case atStart => exact ⟨0, Nat.zero_le _, rfl, Ext.refl _⟩
  case round =>
    obtain ⟨k, hk, rfl, hE⟩ := hrel
    have HE := Lib.hid hE; clear hE
    by_cases hlt : k < n
    · have hkl : k < zs.length := by rw [HL.out]; exact hlt
      obtain ⟨s, hs⟩ : ∃ s, s = zs[k].1 := ⟨_, rfl⟩
      obtain ⟨z, hzz⟩ : ∃ z, z = zs[k].2 := ⟨_, rfl⟩
      have HF := Lib.hid (show FitW z ∧ z.natAbs < B64 ^ 4 by rw [hzz]; exact HZ.out _ (List.getElem_mem _))
      obtain ⟨g, o, hBg, hc⟩ := HB.out (by intro e; rw [e] at hkl; simp at hkl)
      subst hBg
      obtain ⟨b, x0, x1, x2, x3, hde, c0, c1, c2, c3, c4, c5⟩ := de_words (de_get (w := wr) (s := s) (z := z) hkl (fun j hj i u hu => HE.out.cell' (hc j hj i u hu)) (by rw [hs, hzz]))
      have HP := Lib.hid (fun W => sPartsW z W HF.out.1 HF.out.2)
      rw [hde] at HP
      clear hde hs hzz hc
      go_wp2_with (first | (go_at_call 51; (refine (HP.out _).mono ?_); rintro e w1 ⟨rfl, hE⟩) | fail)
      go_roundw
      case rel => exact ⟨k + 1, by omega, by go_num, HE.out.trans' ((ext1 _ _).trans' hE)⟩
      all_goals (simp [intOf]; omega)
    · obtain rfl : n = k := by omega
      go_wp2_with fail
      obtain ⟨W, hW⟩ : ∃ W, W = wr := ⟨_, rfl⟩
      rw [← hW] at HE ⊢
      clear hW
      go_loopw [46] (fun i wz => ∃ (j : Nat), j ≤ n ∧ i = .int .i64 j ∧ Ext W wz) (fun i _ => n - (intOf i).toNat)
      case atStart => exact ⟨0, Nat.zero_le _, rfl, Ext.refl _⟩
      case round =>
        obtain ⟨j, hj, rfl, hE⟩ := hrel
        have HE2 := Lib.hid (HE.out.trans' hE); have HEW := Lib.hid hE; clear hE
        by_cases hjt : j < n
        · have hkl : j < zs.length := by rw [HL.out]; exact hjt
          obtain ⟨s, hs⟩ : ∃ s, s = zs[j].1 := ⟨_, rfl⟩
          obtain ⟨z, hzz⟩ : ∃ z, z = zs[j].2 := ⟨_, rfl⟩
          obtain ⟨q, hq⟩ : ∃ q, q = Int.tdiv z T18 := ⟨_, rfl⟩
          obtain ⟨r, hr⟩ : ∃ r, r = Int.tmod z T18 := ⟨_, rfl⟩
          have HF := Lib.hid (show FitW z ∧ z.natAbs < B64 ^ 4 by rw [hzz]; exact HZ.out _ (List.getElem_mem _))
          obtain ⟨g, o, hBg, hc⟩ := HB.out (by intro e; rw [e] at hkl; simp at hkl)
          obtain ⟨f, p, hAf, hd⟩ := HA.out (by intro e; have := congrArg List.length e; simp at this; rw [this] at hkl; simp at hkl)
          subst hBg hAf
          obtain ⟨b, x0, x1, x2, x3, hde, c0, c1, c2, c3, c4, c5⟩ := de_words (de_get (w := wr) (s := s) (z := z) hkl (fun j hj i u hu => HE2.out.cell' (hc j hj i u hu)) (by rw [hs, hzz]))
          have hdk := hd j (by simpa using hkl)
          have d0 : wr.cell? ⟨f, p + j * 3, none⟩ = some (.string s) := HE2.out.cell' (by rw [hdk.1, hs]; simp [dplain, dback])
          have d1 : wr.cell? ⟨f, p + j * 3 + 1, none⟩ = some (.int .i64 q) := HE2.out.cell' (by rw [hdk.2.1, hq, hzz]; simp [dplain, dback])
          have d2 : wr.cell? ⟨f, p + j * 3 + 2, none⟩ = some (.int .i64 r) := HE2.out.cell' (by rw [hdk.2.2, hr, hzz]; simp [dplain, dback])
          have HP := Lib.hid (fun W => sPartsW z W HF.out.1 HF.out.2)
          rw [hde, ← hq, ← hr] at HP
          clear hde hs hzz hc hq hr hd hdk
          go_upto_region 14 with (first | (go_at_call 51; (refine (HP.out _).mono ?_); rintro e w1 ⟨rfl, hE⟩) | fail)
          have cb : w1.cell? ⟨wr.heap.size, 0, none⟩ = some (.string s) := hE.cell' (cell_new _ _ _ 0)
          have hX := (ext1 wr _).trans' hE
          have e0 := hX.cell' d0; have e1 := hX.cell' d1; have e2 := hX.cell' d2
          have HE3 := Lib.hid (HEW.out.trans' hX)
          have lb := cell_lt cb
          clear d0 d1 d2 hX hE c0 c1 c2 c3 c4 c5
          go_quiet (fail)
          go_wp2
          go_roundw
          case rel => exact ⟨j + 1, by omega, by go_num, HE3.out.trans' (Ext.drewN' _ _)⟩
          all_goals (simp [intOf]; omega)
        · obtain rfl : j = n := by omega
          go_wp2
          go_ret
          exact ⟨rfl, HE2.out⟩

set_option maxRecDepth 100000 in
set_option maxHeartbeats 2000000 in
theorem lIsAllB (A B : Option Addr) (m n c d : Nat) (zs : List (ByteArray × Int)) (w : World) (hl : zs.length = n) (hn : n ≤ 1000000) (hB : DeAt w B zs) (hz : ∀ x ∈ zs, x.2.natAbs < B64 ^ 4) (hb : ∃ x ∈ zs, ¬ FitW x.2) :
    Calls Tryz.prog 17 #[.slice A m c, .bool false, .slice B n d] w (RetE (.bool true) w) := by
  have HL := Lib.hid hl; have HB := Lib.hid hB; have HZ := Lib.hid hz; have HBAD := Lib.hid hb
  clear hl hB hz hb
  go_enter Tryz.func17, Tryz.ntmps17
  go_wp2
  go_loopw [19] (fun i wr => ∃ (k : Nat), k ≤ n ∧ i = .int .i64 k ∧ Ext w wr ∧ ∀ j (hj : j < zs.length), j < k → FitW zs[j].2) (fun i _ => n - (intOf i).toNat)
  case atStart => exact ⟨0, Nat.zero_le _, rfl, Ext.refl _, fun j _ h => by omega⟩
  case round =>
    obtain ⟨k, hk, rfl, hE, hall⟩ := hrel
    have HE := Lib.hid hE; have HALL := Lib.hid hall; clear hE hall
    by_cases hlt : k < n
    · have hkl : k < zs.length := by rw [HL.out]; exact hlt
      obtain ⟨s, hs⟩ : ∃ s, s = zs[k].1 := ⟨_, rfl⟩
      obtain ⟨z, hzz⟩ : ∃ z, z = zs[k].2 := ⟨_, rfl⟩
      have HF := Lib.hid (show z.natAbs < B64 ^ 4 by rw [hzz]; exact HZ.out _ (List.getElem_mem _))
      obtain ⟨g, o, hBg, hc⟩ := HB.out (by intro e; rw [e] at hkl; simp at hkl)
      subst hBg
      obtain ⟨b, x0, x1, x2, x3, hde, c0, c1, c2, c3, c4, c5⟩ := de_words (de_get (w := wr) (s := s) (z := z) hkl (fun j hj i u hu => HE.out.cell' (hc j hj i u hu)) (by rw [hs, hzz]))
      have HZZ := Lib.hid hzz
      by_cases hfit : FitW z
      rotate_left
      · have HP := Lib.hid (fun W => sPartsB z W hfit HF.out)
        rw [hde] at HP
        clear hde hs hzz hc hfit
        go_wp2_with (first | (go_at_call 51; (refine (HP.out _).mono ?_); rintro e w1 ⟨rfl, hE⟩) | fail)
        go_ret
        exact ⟨rfl, HE.out.trans' ((ext1 _ _).trans' hE)⟩
      have HFIT := Lib.hid hfit; clear hfit
      have HP := Lib.hid (fun W => sPartsW z W HFIT.out HF.out)
      rw [hde] at HP
      clear hde hs hzz hc
      go_wp2_with (first | (go_at_call 51; (refine (HP.out _).mono ?_); rintro e w1 ⟨rfl, hE⟩) | fail)
      go_roundw
      case rel => exact ⟨k + 1, by omega, by go_num, HE.out.trans' ((ext1 _ _).trans' hE), fun j hj hjk => by
          by_cases e : j = k
          · subst e; rw [← HZZ.out]; exact HFIT.out
          · exact HALL.out j hj (by omega)⟩
      all_goals (simp [intOf]; omega)
    · obtain rfl : n = k := by omega
      exfalso
      obtain ⟨x, hx, hn⟩ := HBAD.out
      obtain ⟨j, hj, rfl⟩ := List.mem_iff_getElem.1 hx
      exact hn (HALL.out j hj (by rw [HL.out] at hj; exact hj))
end Go.Proofs.YtcoffndnfaemoaaGreatDoor
