/-
  The specification's DeciSplit, of amounts from 0 up that fit.
  The specification's DeciWhole: the whole parts and the rests of amounts from 0 up, each summed by names.
  The laws' deciWholes: whole coins as decimal ones.
-/
import Derived.Test.YtfocejhcdcnnhaaGreatDoorGZ
import Derived.Test.YtfocejhcdcnnhaaGreatDoorGT
import Derived.Deep.RegionLaw
import Derived.Test.YtfocejhcdcnnhaaGreatDoorHM
import Derived.Test.YtfocejhcdcnnhaaGreatDoorHL
import Derived.Test.YtfocejhcdcnnhaaGreatDoorGR
namespace Go.Proofs.YtfocejhcdcnnhaaGreatDoor
open Go Go.RowKit

/-- The cells that the last region of DeciSplit reads. -/
def DS9 (n p g : Nat) (x0 x1 x2 x3 y0 y1 y2 y3 : Value) (w' : World) : Prop := w'.cell? ⟨n, 0, none⟩ = some (.bool false) ∧ w'.cell? ⟨p, 0, none⟩ = some (x0) ∧ w'.cell? ⟨p, 1, none⟩ = some (x1) ∧ w'.cell? ⟨p, 2, none⟩ = some (x2) ∧ w'.cell? ⟨p, 3, none⟩ = some (x3) ∧ w'.cell? ⟨g, 0, none⟩ = some (y0) ∧ w'.cell? ⟨g, 1, none⟩ = some (y1) ∧ w'.cell? ⟨g, 2, none⟩ = some (y2) ∧ w'.cell? ⟨g, 3, none⟩ = some (y3)
theorem DS9.ext {n p g : Nat} {x0 x1 x2 x3 y0 y1 y2 y3 : Value} {w w' : World} (h : DS9 n p g x0 x1 x2 x3 y0 y1 y2 y3 w) (e : Ext w w') : DS9 n p g x0 x1 x2 x3 y0 y1 y2 y3 w' := ⟨e.cell' h.1, e.cell' h.2.1, e.cell' h.2.2.1, e.cell' h.2.2.2.1, e.cell' h.2.2.2.2.1, e.cell' h.2.2.2.2.2.1, e.cell' h.2.2.2.2.2.2.1, e.cell' h.2.2.2.2.2.2.2.1, e.cell' h.2.2.2.2.2.2.2.2⟩
theorem DS9.drew {n p g : Nat} {x0 x1 x2 x3 y0 y1 y2 y3 : Value} {w : World} (h : DS9 n p g x0 x1 x2 x3 y0 y1 y2 y3 w) : DS9 n p g x0 x1 x2 x3 y0 y1 y2 y3 w.drew := h
theorem DS9.set5 {n p g q : Nat} {x0 x1 x2 x3 y0 y1 y2 y3 u0 u1 u2 u3 u4 : Value} {w : World} (h : DS9 n p g x0 x1 x2 x3 y0 y1 y2 y3 w) (h1 : n ≠ q) (h2 : p ≠ q) (h3 : g ≠ q) : DS9 n p g x0 x1 x2 x3 y0 y1 y2 y3 (((((w.setCell ⟨q, 0, none⟩ u0).setCell ⟨q, 1, none⟩ u1).setCell ⟨q, 2, none⟩ u2).setCell ⟨q, 3, none⟩ u3).setCell ⟨q, 4, none⟩ u4) :=
  ⟨(set_far (set_far (set_far (set_far (set_far h.1 h1) h1) h1) h1) h1), (set_far (set_far (set_far (set_far (set_far h.2.1 h2) h2) h2) h2) h2), (set_far (set_far (set_far (set_far (set_far h.2.2.1 h2) h2) h2) h2) h2), (set_far (set_far (set_far (set_far (set_far h.2.2.2.1 h2) h2) h2) h2) h2), (set_far (set_far (set_far (set_far (set_far h.2.2.2.2.1 h2) h2) h2) h2) h2), (set_far (set_far (set_far (set_far (set_far h.2.2.2.2.2.1 h3) h3) h3) h3) h3), (set_far (set_far (set_far (set_far (set_far h.2.2.2.2.2.2.1 h3) h3) h3) h3) h3), (set_far (set_far (set_far (set_far (set_far h.2.2.2.2.2.2.2.1 h3) h3) h3) h3) h3), (set_far (set_far (set_far (set_far (set_far h.2.2.2.2.2.2.2.2 h3) h3) h3) h3) h3)⟩

set_option maxRecDepth 100000 in
set_option maxHeartbeats 8000000 in
theorem sSplitG (M N q r P R : Nat) (w : World)
    (hT : ∀ W, Calls Tryz.prog 51 #[.int .i64 18] W (RetE (dn N) W)) (hO : ∀ W, Calls Tryz.prog 84 #[dn M, dn N] W (RetPair (.agg #[.int .u64 q, .int .u64 0, .int .u64 0, .int .u64 0]) (.agg #[.int .u64 r, .int .u64 0, .int .u64 0, .int .u64 0]) W))
    (hM : ∀ W, Calls Tryz.prog 50 #[.agg #[.int .u64 q, .int .u64 0, .int .u64 0, .int .u64 0], dn N] W (RetE (dn P) W)) (hA : ∀ W, Calls Tryz.prog 86 #[.bool false, dn P] W (RetE (deV false P) W)) (hB : ∀ W, Calls Tryz.prog 86 #[.bool false, .agg #[.int .u64 r, .int .u64 0, .int .u64 0, .int .u64 0]] W (RetE (deV false R) W)) :
    Calls Tryz.prog 73 #[deV false M] w (RetE (.tuple #[deV false P, deV false R]) w) := by
  have HT := Lib.hid hT; have HO := Lib.hid hO; have HM := Lib.hid hM; have HA := Lib.hid hA; have HB := Lib.hid hB
  obtain ⟨W, hW⟩ : ∃ W, W = ((w.alloc (deBox false M)).alloc zeroDe).alloc zeroDe := ⟨_, rfl⟩
  have K0 := Lib.hid (show Blk W w.heap.size 39 [.bool false, dw M 0, dw M 1, dw M 2, dw M 3] by rw [hW]; exact ((blk_new0 w 39 [.bool false, dw M 0, dw M 1, dw M 2, dw M 3]).alloc _).alloc _)
  have KY := Lib.hid (show Blk W (w.heap.size + 1) 39 [.bool false, .int .u64 0, .int .u64 0, .int .u64 0, .int .u64 0] by rw [hW]; exact (blk_new1 w (deBox false M) 39 [.bool false, .int .u64 0, .int .u64 0, .int .u64 0, .int .u64 0]).alloc _)
  have KZ := Lib.hid (show Blk W (w.heap.size + 2) 39 [.bool false, .int .u64 0, .int .u64 0, .int .u64 0, .int .u64 0] by rw [hW]; exact blk_new2 w _ _ 39 [.bool false, .int .u64 0, .int .u64 0, .int .u64 0, .int .u64 0])
  have EW := Lib.hid (show Ext w W by rw [hW]; exact ext3 _ _ _ _)
  have HWW := Lib.hid hW; clear hW hT hO hM hA hB
  obtain ⟨c0, c1, c2, c3, c4, lc⟩ := five_cells K0.out
  have KS0 := Lib.hid (show DF4 w.heap.size (dw M 0) (dw M 1) (dw M 2) (dw M 3) W from ⟨c1, c2, c3, c4⟩)
  have KS0d := Lib.hid (show DF4 w.heap.size (dw M 0) (dw M 1) (dw M 2) (dw M 3) W.drew from KS0.out)
  clear c0
  go_enter Tryz.func73, Tryz.ntmps73
  go_upto_region 1 with fail
  rw [← HWW.out]
  go_cut [4, 5] (fun s4 s5 wx => NTwoBox q 0 0 0 r 0 0 0 W s4 s5 wx)
  case first =>
    go_region_held3 (fun w' => w'.cell? ⟨w.heap.size, 1, none⟩ = some (dw M 0) ∧ w'.cell? ⟨w.heap.size, 2, none⟩ = some (dw M 1) ∧ w'.cell? ⟨w.heap.size, 3, none⟩ = some (dw M 2) ∧ w'.cell? ⟨w.heap.size, 4, none⟩ = some (dw M 3)) ((show DF4 w.heap.size (dw M 0) (dw M 1) (dw M 2) (dw M 3) _; (repeat (first | (with_reducible refine DF4.drew ?_) | (with_reducible refine DF4.alloc ?_ _) | (with_reducible refine DF4.set4 ?_ ?_; rotate_left; omega))); with_reducible first | exact KS2.out | exact KS1.out | exact KS0d.out | exact KS0.out)) (first | (go_at_call 51; (with_reducible refine (HT.out _).mono ?_); rintro e w1 ⟨rfl, hE⟩; have HE1 := Lib.hid (show Ext W w1 by with_reducible first | exact Ext.undrew hE | exact ndnE1 hE | exact ndnE2 hE); have KS1 := Lib.hid (KS0.out.ext HE1.out); have sz1 := HE1.out.size; (try ((with_reducible have KA := Lib.hid (ndnM1 hE)); have lA := KA.out.lt; have pA : ¬ W.heap.size = w1.heap.size := (by omega); have pA' : ¬ w1.heap.size = W.heap.size := (by omega))); (try ((with_reducible have KAB := ndnM2 hE); have KA := Lib.hid KAB.1; have KB := Lib.hid KAB.2; clear KAB)); clear hE c1 c2 c3 c4) | (go_at_call 84; (with_reducible refine (HO.out _).mono ?_); rintro e w2 ⟨rfl, hE⟩; have HE12 := Lib.hid (show Ext w1 w2 by with_reducible first | exact hE | exact ndnF1 hE | exact ndnF2 hE); have HE2 := Lib.hid (HE1.out.trans' HE12.out); have KS2 := Lib.hid (KS1.out.ext HE12.out); have sz2 := HE12.out.size; (try (have K5 := Lib.hid (KA.out.ext HE12.out); have l5 := K5.out.lt; have q50 : w2.cell? ⟨W.heap.size, 0, none⟩ = some (.int .u64 0) := (K5.out.cell 0).trans rfl; have f50 := K5.out.frozen 0; have qa50 : ∀ o : Obj, (w2.alloc o).cell? ⟨W.heap.size, 0, none⟩ = some (.int .u64 0) := fun o => ((K5.out.alloc o).cell 0).trans rfl; have fa50 : ∀ o : Obj, (w2.alloc o).frozen? ⟨W.heap.size, 0, none⟩ = false := fun o => (K5.out.alloc o).frozen 0; have q51 : w2.cell? ⟨W.heap.size, 1, none⟩ = some (.int .u64 0) := (K5.out.cell 1).trans rfl; have f51 := K5.out.frozen 1; have qa51 : ∀ o : Obj, (w2.alloc o).cell? ⟨W.heap.size, 1, none⟩ = some (.int .u64 0) := fun o => ((K5.out.alloc o).cell 1).trans rfl; have fa51 : ∀ o : Obj, (w2.alloc o).frozen? ⟨W.heap.size, 1, none⟩ = false := fun o => (K5.out.alloc o).frozen 1; have q52 : w2.cell? ⟨W.heap.size, 2, none⟩ = some (.int .u64 0) := (K5.out.cell 2).trans rfl; have f52 := K5.out.frozen 2; have qa52 : ∀ o : Obj, (w2.alloc o).cell? ⟨W.heap.size, 2, none⟩ = some (.int .u64 0) := fun o => ((K5.out.alloc o).cell 2).trans rfl; have fa52 : ∀ o : Obj, (w2.alloc o).frozen? ⟨W.heap.size, 2, none⟩ = false := fun o => (K5.out.alloc o).frozen 2; have q53 : w2.cell? ⟨W.heap.size, 3, none⟩ = some (.int .u64 0) := (K5.out.cell 3).trans rfl; have f53 := K5.out.frozen 3; have qa53 : ∀ o : Obj, (w2.alloc o).cell? ⟨W.heap.size, 3, none⟩ = some (.int .u64 0) := fun o => ((K5.out.alloc o).cell 3).trans rfl; have fa53 : ∀ o : Obj, (w2.alloc o).frozen? ⟨W.heap.size, 3, none⟩ = false := fun o => (K5.out.alloc o).frozen 3; have e5 : ¬ W.heap.size = w2.heap.size := (by omega); have e5' : ¬ w2.heap.size = W.heap.size := (by omega))); (try (have K6 := Lib.hid (KB.out.ext HE12.out); have l6 := K6.out.lt; have q60 : w2.cell? ⟨W.heap.size + 1, 0, none⟩ = some (.int .u64 0) := (K6.out.cell 0).trans rfl; have f60 := K6.out.frozen 0; have qa60 : ∀ o : Obj, (w2.alloc o).cell? ⟨W.heap.size + 1, 0, none⟩ = some (.int .u64 0) := fun o => ((K6.out.alloc o).cell 0).trans rfl; have fa60 : ∀ o : Obj, (w2.alloc o).frozen? ⟨W.heap.size + 1, 0, none⟩ = false := fun o => (K6.out.alloc o).frozen 0; have q61 : w2.cell? ⟨W.heap.size + 1, 1, none⟩ = some (.int .u64 0) := (K6.out.cell 1).trans rfl; have f61 := K6.out.frozen 1; have qa61 : ∀ o : Obj, (w2.alloc o).cell? ⟨W.heap.size + 1, 1, none⟩ = some (.int .u64 0) := fun o => ((K6.out.alloc o).cell 1).trans rfl; have fa61 : ∀ o : Obj, (w2.alloc o).frozen? ⟨W.heap.size + 1, 1, none⟩ = false := fun o => (K6.out.alloc o).frozen 1; have q62 : w2.cell? ⟨W.heap.size + 1, 2, none⟩ = some (.int .u64 0) := (K6.out.cell 2).trans rfl; have f62 := K6.out.frozen 2; have qa62 : ∀ o : Obj, (w2.alloc o).cell? ⟨W.heap.size + 1, 2, none⟩ = some (.int .u64 0) := fun o => ((K6.out.alloc o).cell 2).trans rfl; have fa62 : ∀ o : Obj, (w2.alloc o).frozen? ⟨W.heap.size + 1, 2, none⟩ = false := fun o => (K6.out.alloc o).frozen 2; have q63 : w2.cell? ⟨W.heap.size + 1, 3, none⟩ = some (.int .u64 0) := (K6.out.cell 3).trans rfl; have f63 := K6.out.frozen 3; have qa63 : ∀ o : Obj, (w2.alloc o).cell? ⟨W.heap.size + 1, 3, none⟩ = some (.int .u64 0) := fun o => ((K6.out.alloc o).cell 3).trans rfl; have fa63 : ∀ o : Obj, (w2.alloc o).frozen? ⟨W.heap.size + 1, 3, none⟩ = false := fun o => (K6.out.alloc o).frozen 3; have e6 : ¬ W.heap.size + 1 = w2.heap.size := (by omega); have e6' : ¬ w2.heap.size = W.heap.size + 1 := (by omega))); (first | ((with_reducible have K7 := Lib.hid (ndnN1 hE)); have l7 := K7.out.lt; have q70 : w2.cell? ⟨w1.heap.size, 0, none⟩ = some (.int .u64 0) := (K7.out.cell 0).trans rfl; have f70 := K7.out.frozen 0; have qa70 : ∀ o : Obj, (w2.alloc o).cell? ⟨w1.heap.size, 0, none⟩ = some (.int .u64 0) := fun o => ((K7.out.alloc o).cell 0).trans rfl; have fa70 : ∀ o : Obj, (w2.alloc o).frozen? ⟨w1.heap.size, 0, none⟩ = false := fun o => (K7.out.alloc o).frozen 0; have q71 : w2.cell? ⟨w1.heap.size, 1, none⟩ = some (.int .u64 0) := (K7.out.cell 1).trans rfl; have f71 := K7.out.frozen 1; have qa71 : ∀ o : Obj, (w2.alloc o).cell? ⟨w1.heap.size, 1, none⟩ = some (.int .u64 0) := fun o => ((K7.out.alloc o).cell 1).trans rfl; have fa71 : ∀ o : Obj, (w2.alloc o).frozen? ⟨w1.heap.size, 1, none⟩ = false := fun o => (K7.out.alloc o).frozen 1; have q72 : w2.cell? ⟨w1.heap.size, 2, none⟩ = some (.int .u64 0) := (K7.out.cell 2).trans rfl; have f72 := K7.out.frozen 2; have qa72 : ∀ o : Obj, (w2.alloc o).cell? ⟨w1.heap.size, 2, none⟩ = some (.int .u64 0) := fun o => ((K7.out.alloc o).cell 2).trans rfl; have fa72 : ∀ o : Obj, (w2.alloc o).frozen? ⟨w1.heap.size, 2, none⟩ = false := fun o => (K7.out.alloc o).frozen 2; have q73 : w2.cell? ⟨w1.heap.size, 3, none⟩ = some (.int .u64 0) := (K7.out.cell 3).trans rfl; have f73 := K7.out.frozen 3; have qa73 : ∀ o : Obj, (w2.alloc o).cell? ⟨w1.heap.size, 3, none⟩ = some (.int .u64 0) := fun o => ((K7.out.alloc o).cell 3).trans rfl; have fa73 : ∀ o : Obj, (w2.alloc o).frozen? ⟨w1.heap.size, 3, none⟩ = false := fun o => (K7.out.alloc o).frozen 3; have e7 : ¬ w1.heap.size = w2.heap.size := (by omega); have e7' : ¬ w2.heap.size = w1.heap.size := (by omega)) | ((with_reducible have K78 := ndnN2 hE); have K7 := Lib.hid K78.1; have K8 := Lib.hid K78.2; clear K78; have l7 := K7.out.lt; have q70 : w2.cell? ⟨w1.heap.size, 0, none⟩ = some (.int .u64 0) := (K7.out.cell 0).trans rfl; have f70 := K7.out.frozen 0; have qa70 : ∀ o : Obj, (w2.alloc o).cell? ⟨w1.heap.size, 0, none⟩ = some (.int .u64 0) := fun o => ((K7.out.alloc o).cell 0).trans rfl; have fa70 : ∀ o : Obj, (w2.alloc o).frozen? ⟨w1.heap.size, 0, none⟩ = false := fun o => (K7.out.alloc o).frozen 0; have q71 : w2.cell? ⟨w1.heap.size, 1, none⟩ = some (.int .u64 0) := (K7.out.cell 1).trans rfl; have f71 := K7.out.frozen 1; have qa71 : ∀ o : Obj, (w2.alloc o).cell? ⟨w1.heap.size, 1, none⟩ = some (.int .u64 0) := fun o => ((K7.out.alloc o).cell 1).trans rfl; have fa71 : ∀ o : Obj, (w2.alloc o).frozen? ⟨w1.heap.size, 1, none⟩ = false := fun o => (K7.out.alloc o).frozen 1; have q72 : w2.cell? ⟨w1.heap.size, 2, none⟩ = some (.int .u64 0) := (K7.out.cell 2).trans rfl; have f72 := K7.out.frozen 2; have qa72 : ∀ o : Obj, (w2.alloc o).cell? ⟨w1.heap.size, 2, none⟩ = some (.int .u64 0) := fun o => ((K7.out.alloc o).cell 2).trans rfl; have fa72 : ∀ o : Obj, (w2.alloc o).frozen? ⟨w1.heap.size, 2, none⟩ = false := fun o => (K7.out.alloc o).frozen 2; have q73 : w2.cell? ⟨w1.heap.size, 3, none⟩ = some (.int .u64 0) := (K7.out.cell 3).trans rfl; have f73 := K7.out.frozen 3; have qa73 : ∀ o : Obj, (w2.alloc o).cell? ⟨w1.heap.size, 3, none⟩ = some (.int .u64 0) := fun o => ((K7.out.alloc o).cell 3).trans rfl; have fa73 : ∀ o : Obj, (w2.alloc o).frozen? ⟨w1.heap.size, 3, none⟩ = false := fun o => (K7.out.alloc o).frozen 3; have e7 : ¬ w1.heap.size = w2.heap.size := (by omega); have e7' : ¬ w2.heap.size = w1.heap.size := (by omega); have l8 := K8.out.lt; have q80 : w2.cell? ⟨w1.heap.size + 1, 0, none⟩ = some (.int .u64 0) := (K8.out.cell 0).trans rfl; have f80 := K8.out.frozen 0; have qa80 : ∀ o : Obj, (w2.alloc o).cell? ⟨w1.heap.size + 1, 0, none⟩ = some (.int .u64 0) := fun o => ((K8.out.alloc o).cell 0).trans rfl; have fa80 : ∀ o : Obj, (w2.alloc o).frozen? ⟨w1.heap.size + 1, 0, none⟩ = false := fun o => (K8.out.alloc o).frozen 0; have q81 : w2.cell? ⟨w1.heap.size + 1, 1, none⟩ = some (.int .u64 0) := (K8.out.cell 1).trans rfl; have f81 := K8.out.frozen 1; have qa81 : ∀ o : Obj, (w2.alloc o).cell? ⟨w1.heap.size + 1, 1, none⟩ = some (.int .u64 0) := fun o => ((K8.out.alloc o).cell 1).trans rfl; have fa81 : ∀ o : Obj, (w2.alloc o).frozen? ⟨w1.heap.size + 1, 1, none⟩ = false := fun o => (K8.out.alloc o).frozen 1; have q82 : w2.cell? ⟨w1.heap.size + 1, 2, none⟩ = some (.int .u64 0) := (K8.out.cell 2).trans rfl; have f82 := K8.out.frozen 2; have qa82 : ∀ o : Obj, (w2.alloc o).cell? ⟨w1.heap.size + 1, 2, none⟩ = some (.int .u64 0) := fun o => ((K8.out.alloc o).cell 2).trans rfl; have fa82 : ∀ o : Obj, (w2.alloc o).frozen? ⟨w1.heap.size + 1, 2, none⟩ = false := fun o => (K8.out.alloc o).frozen 2; have q83 : w2.cell? ⟨w1.heap.size + 1, 3, none⟩ = some (.int .u64 0) := (K8.out.cell 3).trans rfl; have f83 := K8.out.frozen 3; have qa83 : ∀ o : Obj, (w2.alloc o).cell? ⟨w1.heap.size + 1, 3, none⟩ = some (.int .u64 0) := fun o => ((K8.out.alloc o).cell 3).trans rfl; have fa83 : ∀ o : Obj, (w2.alloc o).frozen? ⟨w1.heap.size + 1, 3, none⟩ = false := fun o => (K8.out.alloc o).frozen 3; have e8 : ¬ w1.heap.size + 1 = w2.heap.size := (by omega); have e8' : ¬ w2.heap.size = w1.heap.size + 1 := (by omega)) | skip); clear hE))
    all_goals (go_wp2_with fail; go_meet)
    all_goals first | with_reducible exact ntwoBox_nn _ _ _ _ _ _ _ _ HE2.out | with_reducible exact ntwoBox_nn' _ _ _ _ _ _ _ _ HE2.out | with_reducible exact ntwoBox_on _ _ _ _ _ _ _ _ K5.out (by omega) HE2.out | with_reducible exact ntwoBox_no _ _ _ _ _ _ _ _ K5.out (by omega) HE2.out | with_reducible exact ntwoBox_on _ _ _ _ _ _ _ _ K7.out (by omega) HE2.out | with_reducible exact ntwoBox_no _ _ _ _ _ _ _ _ K7.out (by omega) HE2.out | with_reducible exact ntwoBox_oo _ _ _ _ _ _ _ _ K5.out K7.out (by omega) (by omega) (by omega) HE2.out | with_reducible exact ntwoBox_oo _ _ _ _ _ _ _ _ K7.out K5.out (by omega) (by omega) (by omega) HE2.out | with_reducible exact ntwoBox_oo _ _ _ _ _ _ _ _ K5.out K6.out (by omega) (by omega) (by omega) HE2.out | with_reducible exact ntwoBox_oo _ _ _ _ _ _ _ _ K6.out K5.out (by omega) (by omega) (by omega) HE2.out | with_reducible exact ntwoBox_oo _ _ _ _ _ _ _ _ K7.out K8.out (by omega) (by omega) (by omega) HE2.out | with_reducible exact ntwoBox_oo _ _ _ _ _ _ _ _ K8.out K7.out (by omega) (by omega) (by omega) HE2.out
  case rest =>
    obtain ⟨p, g, rfl, rfl, hP, hQ, hE⟩ := hcut
    have KP := Lib.hid hP; have KG := Lib.hid hQ; have KN := Lib.hid (K0.out.ext hE); have K1 := Lib.hid (KY.out.ext hE); have K2 := Lib.hid (KZ.out.ext hE)
    have HE := Lib.hid (EW.out.trans' hE)
    clear hP hQ hE c1 c2 c3 c4 KS0 KS0d K0 KY KZ
    obtain ⟨p0, p1, p2, p3, lp⟩ := four_cells KP.out
    obtain ⟨g0, g1, g2, g3, lg⟩ := four_cells KG.out
    obtain ⟨n0, _, _, _, _, ln⟩ := five_cells KN.out
    go_upto_region 2 with fail
    have KT0 := Lib.hid (show DS9 w.heap.size p g (.int .u64 q) (.int .u64 0) (.int .u64 0) (.int .u64 0) (.int .u64 r) (.int .u64 0) (.int .u64 0) (.int .u64 0) wc from ⟨n0, p0, p1, p2, p3, g0, g1, g2, g3⟩)
    have KT0d := Lib.hid (show DS9 w.heap.size p g (.int .u64 q) (.int .u64 0) (.int .u64 0) (.int .u64 0) (.int .u64 r) (.int .u64 0) (.int .u64 0) (.int .u64 0) wc.drew from KT0.out)
    have l1 := K1.out.lt; have l2 := K2.out.lt
    have np1 : p ≠ w.heap.size + 1 := KP.out.ne K1.out (by decide); have np2 : p ≠ w.heap.size + 2 := KP.out.ne K2.out (by decide); have ng1 : g ≠ w.heap.size + 1 := KG.out.ne K1.out (by decide); have ng2 : g ≠ w.heap.size + 2 := KG.out.ne K2.out (by decide)
    go_region_held3 (fun w' => w'.cell? ⟨w.heap.size, 0, none⟩ = some (.bool false) ∧ w'.cell? ⟨p, 0, none⟩ = some (.int .u64 q) ∧ w'.cell? ⟨p, 1, none⟩ = some (.int .u64 0) ∧ w'.cell? ⟨p, 2, none⟩ = some (.int .u64 0) ∧ w'.cell? ⟨p, 3, none⟩ = some (.int .u64 0) ∧ w'.cell? ⟨g, 0, none⟩ = some (.int .u64 r) ∧ w'.cell? ⟨g, 1, none⟩ = some (.int .u64 0) ∧ w'.cell? ⟨g, 2, none⟩ = some (.int .u64 0) ∧ w'.cell? ⟨g, 3, none⟩ = some (.int .u64 0)) ((show DS9 w.heap.size p g (.int .u64 q) (.int .u64 0) (.int .u64 0) (.int .u64 0) (.int .u64 r) (.int .u64 0) (.int .u64 0) (.int .u64 0) _; (repeat (first | (with_reducible refine DS9.drew ?_) | (with_reducible refine DS9.set5 ?_ ?_ ?_ ?_; rotate_left; omega; omega; omega))); with_reducible first | exact KT4.out | exact KT3.out | exact KT2.out | exact KT1.out | exact KT0d.out | exact KT0.out)) (first | (go_at_call 51; (with_reducible refine (HT.out _).mono ?_); rintro e w1 ⟨rfl, hE⟩; have HE1 := Lib.hid (show Ext wc w1 from Ext.undrew hE); have KT1 := Lib.hid (KT0.out.ext HE1.out); clear hE) | (go_at_call 50; (with_reducible refine (HM.out _).mono ?_); rintro e w2 ⟨rfl, hE⟩; have HE2 := Lib.hid (show Ext wc w2 from HE1.out.trans' hE); have KT2 := Lib.hid (KT0.out.ext HE2.out); clear hE) | (go_at_call 86; (with_reducible refine (HA.out _).mono ?_); rintro e w3 ⟨rfl, hE⟩; have HE3 := Lib.hid (show Ext wc w3 from HE2.out.trans' hE); have KT3 := Lib.hid (KT0.out.ext HE3.out); clear hE) | (go_at_call 86; (with_reducible refine (HB.out _).mono ?_); rintro e w4 ⟨rfl, hE⟩; have HE4 := Lib.hid (show Ext wc w4 from HE3.out.trans' hE); have KT4 := Lib.hid (KT0.out.ext HE4.out); obtain ⟨y0, y1, y2, y3, y4, ly⟩ := five_cells (K1.out.ext HE4.out); obtain ⟨f0, f1, f2, f3, f4⟩ := five_frozen (K1.out.ext HE4.out); obtain ⟨z0, z1, z2, z3, z4, lz⟩ := five_cells (K2.out.ext HE4.out); obtain ⟨h0, h1, h2, h3, h4⟩ := five_frozen (K2.out.ext HE4.out); clear hE))
    all_goals go_wp2
    all_goals exact bodyPost_ret (v := .tuple #[deV false P, deV false R]) (by simp [results, Tryz.results73, go_sem, y0, y1, y2, y3, y4, z0, z1, z2, z3, z4]) rfl ⟨rfl, by first | exact Only.ext (Only.ext (HE.out.trans' HE4.out) ((Only.refl (w.heap.size + 1) _).five _ _ _ _ _) (by omega)) ((Only.refl (w.heap.size + 2) _).five _ _ _ _ _) (by omega) | exact Only.ext (Only.ext (HE.out.trans' HE4.out) ((Only.refl (w.heap.size + 2) _).five _ _ _ _ _) (by omega)) ((Only.refl (w.heap.size + 1) _).five _ _ _ _ _) (by omega)⟩
theorem sSplit (z : Int) (w : World) (h0 : 0 ≤ z) (hz : FitT z) : Calls Tryz.prog 73 #[de z] w (RetE (.tuple #[de (z.tdiv T18 * T18), de (z - z.tdiv T18 * T18)]) w) := by
  obtain ⟨h1, h2, _, h4⟩ := parts_facts hz _ _ rfl rfl
  obtain ⟨k1, k2⟩ := h4 (by omega)
  have hB : z.natAbs < B64 ^ 4 := by unfold FitT at hz; unfold B64; omega
  obtain ⟨M, hM⟩ : ∃ M, M = z.natAbs := ⟨_, rfl⟩
  have hzM : z = (M : Int) := by omega
  rw [← hM] at h1 h2 k1 k2 hB
  obtain ⟨q, hq⟩ : ∃ q, q = M / 10 ^ 18 := ⟨_, rfl⟩
  obtain ⟨r, hr⟩ : ∃ r, r = M % 10 ^ 18 := ⟨_, rfl⟩
  have hmod := Nat.div_add_mod M (10 ^ 18)
  rw [← hq] at h1 k1 hmod
  rw [← hr] at h2 k2 hmod
  have e1 : de z = deV false M := by unfold de; rw [decide_eq_false (by omega), ← hM]
  have e2 : z.tdiv T18 * T18 = ((q * 10 ^ 18 : Nat) : Int) := by rw [k1]; unfold T18; omega
  have e3 : z - z.tdiv T18 * T18 = (r : Int) := by rw [e2, hzM]; omega
  have f2 : de (z.tdiv T18 * T18) = deV false (q * 10 ^ 18) := by rw [e2]; unfold de; rw [decide_eq_false (by omega), Int.natAbs_natCast]
  have f3 : de (z - z.tdiv T18 * T18) = deV false r := by rw [e3]; unfold de; rw [decide_eq_false (by omega), Int.natAbs_natCast]
  have d1 := dw_small (show q < B64 by unfold B64; omega)
  have d2 := dw_small (show r < B64 by unfold B64; omega)
  rw [e1, f2, f3]
  refine sSplitG M (10 ^ 18) q r (q * 10 ^ 18) r w (fun W => sTen 18 W (by omega)) (fun W => ?_) (fun W => ?_) (fun W => sMadeF _ W) (fun W => ?_)
  · rw [← dn_of d1.1 d1.2.1 d1.2.2.1 d1.2.2.2, ← dn_of d2.1 d2.2.1 d2.2.2.1 d2.2.2.2, hq, hr]
    exact nOver _ _ W hB (by decide) (by unfold B64; decide)
  · rw [← dn_of d1.1 d1.2.1 d1.2.2.1 d1.2.2.2]
    exact nTimes _ _ W (Nat.lt_of_lt_of_le (show q < B64 ^ 1 by rw [Nat.pow_one]; unfold B64; omega) (Nat.pow_le_pow_right B64_pos (by omega)))
  · rw [← dn_of d2.1 d2.2.1 d2.2.2.1 d2.2.2.2]
    exact sMadeF _ W
end Go.Proofs.YtfocejhcdcnnhaaGreatDoor

namespace Go.Proofs.YtfocejhcdcnnhaaGreatDoor
open Go Go.RowKit

theorem wrow_drew {w : World} {base n k : Nat} {E : TypeId} {v : Value} {xs : List Value} (h : w.ownsRow base E k v n xs) : w.drew.ownsRow base E k v n xs := h
theorem wrow_alloc {w : World} {base n k : Nat} {E : TypeId} {v : Value} {xs : List Value} (h : w.ownsRow base E k v n xs) (o : Obj) : (w.alloc o).ownsRow base E k v n xs := owns_ext h (ext1 _ _)
theorem wext_drew {W X : World} (h : Ext W X) : Ext W X.drew := h.trans' (Ext.drewN' _ 1)
theorem wext_alloc {W X : World} (h : Ext W X) (o : Obj) : Ext W (X.alloc o) := h.trans' (ext1 _ _)
theorem wext_of {W X wA : World} {row : Option Nat} (_ : X.grownBy wA row) (h : Ext W X) : Ext W X := h
theorem wcells_mid (W : World) (cs : List Value) (t : TypeId) (o : Obj) : ∀ j u, cs[j]? = some u → ((W.alloc (.cells cs.toArray t)).alloc o).cell? ((⟨W.heap.size, 0, none⟩ : Addr).add j) = some u := fun j u hu => (ext1 _ _).cell' (cells_new W cs t j u hu)
theorem wcells_top (W : World) (o : Obj) (cs : List Value) (t : TypeId) : ∀ j u, cs[j]? = some u → ((W.alloc o).alloc (.cells cs.toArray t)).cell? ((⟨W.heap.size + 1, 0, none⟩ : Addr).add j) = some u := by
  have := cells_new (W.alloc o) cs t
  rwa [show (W.alloc o).heap.size = W.heap.size + 1 by simp] at this
theorem wfar_cells {X wA : World} {row : Option Nat} {B : Nat} {news : List Value} (hg : X.grownBy wA row) (hc : ∀ j u, news[j]? = some u → X.cell? ((⟨B, 0, none⟩ : Addr).add j) = some u) (hlt : B < X.heap.size) (hne : row ≠ some B) : ∀ j u, news[j]? = some u → wA.cell? ((⟨B, 0, none⟩ : Addr).add j) = some u := fun j u hu => by
  have hb : ((⟨B, 0, none⟩ : Addr).add j).block = B := by unfold Addr.add; split <;> rfl
  rw [hg.cell_far _ (by rw [hb]; exact hlt) (by rw [hb]; exact fun e => hne e.symm)]
  exact hc j u hu
theorem whole_ne {v : Value} {lo B : Nat} (h : ∀ g, v.ownBlock = some g → g < lo) (hb : lo ≤ B) : v.ownBlock ≠ some B := fun e => by have := h B e; omega
theorem whole_at {W X : World} {v : Value} {g : Nat} (e : Ext W X) (h : v.ownBlock = some g ∨ g = X.heap.size) : v.ownBlock = some g ∨ W.heap.size ≤ g := h.imp id fun h => by rw [h]; exact e.size
/-- The cells that the region reads. -/
def DW11 (q g h : Nat) (u0 x0 x1 x2 x3 x4 y0 y1 y2 y3 y4 : Value) (w' : World) : Prop := w'.cell? ⟨q, 0, none⟩ = some u0 ∧ w'.cell? ⟨g, 0, none⟩ = some x0 ∧ w'.cell? ⟨g, 1, none⟩ = some x1 ∧ w'.cell? ⟨g, 2, none⟩ = some x2 ∧ w'.cell? ⟨g, 3, none⟩ = some x3 ∧ w'.cell? ⟨g, 4, none⟩ = some x4 ∧ w'.cell? ⟨h, 0, none⟩ = some y0 ∧ w'.cell? ⟨h, 1, none⟩ = some y1 ∧ w'.cell? ⟨h, 2, none⟩ = some y2 ∧ w'.cell? ⟨h, 3, none⟩ = some y3 ∧ w'.cell? ⟨h, 4, none⟩ = some y4
theorem DW11.drew {q g h : Nat} {u0 x0 x1 x2 x3 x4 y0 y1 y2 y3 y4 : Value} {w : World} (k : DW11 q g h u0 x0 x1 x2 x3 x4 y0 y1 y2 y3 y4 w) : DW11 q g h u0 x0 x1 x2 x3 x4 y0 y1 y2 y3 y4 w.drew := k
theorem DW11.ext {q g h : Nat} {u0 x0 x1 x2 x3 x4 y0 y1 y2 y3 y4 : Value} {w w' : World} (k : DW11 q g h u0 x0 x1 x2 x3 x4 y0 y1 y2 y3 y4 w) (e : Ext w w') : DW11 q g h u0 x0 x1 x2 x3 x4 y0 y1 y2 y3 y4 w' := ⟨e.cell' k.1, e.cell' k.2.1, e.cell' k.2.2.1, e.cell' k.2.2.2.1, e.cell' k.2.2.2.2.1, e.cell' k.2.2.2.2.2.1, e.cell' k.2.2.2.2.2.2.1, e.cell' k.2.2.2.2.2.2.2.1, e.cell' k.2.2.2.2.2.2.2.2.1, e.cell' k.2.2.2.2.2.2.2.2.2.1, e.cell' k.2.2.2.2.2.2.2.2.2.2⟩
theorem DW11.alloc {q g h : Nat} {u0 x0 x1 x2 x3 x4 y0 y1 y2 y3 y4 : Value} {w : World} (k : DW11 q g h u0 x0 x1 x2 x3 x4 y0 y1 y2 y3 y4 w) (o : Obj) : DW11 q g h u0 x0 x1 x2 x3 x4 y0 y1 y2 y3 y4 (w.alloc o) := k.ext (ext1 _ _)
theorem wcell_far {W X wA : World} {v : Value} {lo b i : Nat} {c : Value} (e : Ext W X) (hg : X.grownBy wA v.ownBlock) (hlo : ∀ g, v.ownBlock = some g → g < lo) (hb : lo ≤ b) (h : W.cell? ⟨b, i, none⟩ = some c) : wA.cell? ⟨b, i, none⟩ = some c := by
  have h1 := e.cell' h
  rw [hg.cell_far _ (cell_lt h1) (fun e => by have := hlo b e.symm; omega)]
  exact h1
theorem DW11.far {q g h : Nat} {u0 x0 x1 x2 x3 x4 y0 y1 y2 y3 y4 : Value} {W X wA : World} {v : Value} {lo : Nat} (k : DW11 q g h u0 x0 x1 x2 x3 x4 y0 y1 y2 y3 y4 W) (e : Ext W X) (hg : X.grownBy wA v.ownBlock) (hlo : ∀ g, v.ownBlock = some g → g < lo) (h1 : lo ≤ q) (h2 : lo ≤ g) (h3 : lo ≤ h) : DW11 q g h u0 x0 x1 x2 x3 x4 y0 y1 y2 y3 y4 wA :=
  ⟨wcell_far e hg hlo h1 k.1, wcell_far e hg hlo h2 k.2.1, wcell_far e hg hlo h2 k.2.2.1, wcell_far e hg hlo h2 k.2.2.2.1, wcell_far e hg hlo h2 k.2.2.2.2.1, wcell_far e hg hlo h2 k.2.2.2.2.2.1, wcell_far e hg hlo h3 k.2.2.2.2.2.2.1, wcell_far e hg hlo h3 k.2.2.2.2.2.2.2.1, wcell_far e hg hlo h3 k.2.2.2.2.2.2.2.2.1, wcell_far e hg hlo h3 k.2.2.2.2.2.2.2.2.2.1, wcell_far e hg hlo h3 k.2.2.2.2.2.2.2.2.2.2⟩
theorem whole_low {w : World} {b b' : Nat} {v : Value} {l : List (ByteArray × Int)} (h : DeOwn w b v l) (hb : b' ≤ b) : DeOwn w b' v l := row_low h hb
/-- One more in a row, beside another row. -/
theorem whole_push1 {w W X wA : World} {v u : Value} {cs ds : List (ByteArray × Int)} {x : ByteArray × Int} {g cap : Nat} (hv : DeOwn W w.heap.size v cs) (hu : DeOwn W w.heap.size u ds) (hne : ∀ g, v.ownBlock = some g → u.ownBlock ≠ some g) (eW : Ext w W) (eX : Ext W X)
    (hown : wA.ownsRow w.heap.size 53 6 (.slice (some ⟨g, 0, none⟩) (cs.length + 1) cap) (cs.length + 1) (flat6 cs ++ dcell6 x)) (hg : X.grownBy wA v.ownBlock) (hat : v.ownBlock = some g ∨ g = X.heap.size) (_ : g < wA.heap.size) :
    DeOwn wA w.heap.size (.slice (some ⟨g, 0, none⟩) (cs.length + 1) cap) (cs ++ [x]) ∧ DeOwn wA w.heap.size u ds ∧ Ext w wA ∧ (∀ g', u.ownBlock = some g' → (Value.slice (some ⟨g, 0, none⟩) (cs.length + 1) cap).ownBlock ≠ some g') := by
  have hu' : X.ownsRow w.heap.size 53 6 u ds.length (flat6 ds) := owns_ext hu eX
  have hv' : X.ownsRow w.heap.size 53 6 v cs.length (flat6 cs) := owns_ext hv eX
  refine ⟨?_, ⟨hu'.1, ?_⟩, ext_grown (eW.trans' eX) hv' hg, fun g' hg' e => ?_⟩
  · unfold DeOwn
    rw [List.length_append, flat6_append, show flat6 [x] = dcell6 x by simp [flat6]]; exact hown
  · rcases hu'.2 with h2 | ⟨g1, c1, cur, h1, hb, hh, hr⟩
    · exact Or.inl h2
    · refine Or.inr ⟨g1, c1, cur, h1, hb, (hg.block g1 (Array.getElem?_eq_some_iff.1 hh).1 fun e => ?_).trans hh, hr⟩
      exact hne g1 e.symm (by rw [h1]; rfl)
  · have e2 : g = g' := by simpa [Value.ownBlock] using e
    subst e2
    rcases hat with h | h
    · exact hne g h hg'
    · have := (hu'.lt g hg').2; omega

set_option maxRecDepth 100000 in
set_option maxHeartbeats 8000000 in
theorem sDeWhole (A : Option Addr) (n c : Nat) (l : List (ByteArray × Int)) (w : World) (hl : l.length = n) (hn : n ≤ 100) (h : DeAt w A l) (hz : ∀ x ∈ l, TOk x.2) :
    Calls Tryz.prog 37 #[.slice A n c] w fun e w' => ∃ (X Y : List (ByteArray × Int)) (v u : Value), e = .returned (.tuple #[v, u]) ∧ DeOwn w' w.heap.size v X ∧ SumsTo (l.map fun x => whole (tq x)) X ∧ DeOwn w' w.heap.size u Y ∧ SumsTo (l.map tr) Y ∧ Ext w w' := by
  obtain ⟨i0, hi, hz0, hz1, hz2⟩ := info_parts infoDe
  have HL := Lib.hid hl; have HP := Lib.hid h; have HZ := Lib.hid hz
  clear hl h hz
  go_enter Tryz.func37, Tryz.ntmps37
  go_wp2
  go_loopw [4, 5, 12] (fun v u i wr => ∃ (k : Nat) (cs ds : List (ByteArray × Int)), k ≤ n ∧ i = .int .i64 k ∧ (cs = (l.take k).map (fun x => whole (tq x)) ∧ ds = (l.take k).map tr) ∧ DeOwn wr w.heap.size v cs ∧ DeOwn wr w.heap.size u ds ∧ (∀ g, v.ownBlock = some g → u.ownBlock ≠ some g) ∧ Ext w wr) (fun _ _ i _ => n - (intOf i).toNat)
  case atStart => exact ⟨0, [], [], Nat.zero_le _, rfl, ⟨rfl, rfl⟩, DeOwn.nil _ _, DeOwn.nil _ _, (fun _ h => by simp [Value.ownBlock] at h), Ext.refl _⟩
  case round =>
    obtain ⟨k, cs, ds, hk, rfl, ⟨hcv, hdv⟩, hov, hou, hne, hE⟩ := hrel
    have HV := Lib.hid hcv; have HU := Lib.hid hdv; have HO := Lib.hid hov; have HP5 := Lib.hid hou; have HNE := Lib.hid hne; have HE := Lib.hid hE
    have hcl : cs.length ≤ 100 := by rw [hcv, List.length_map, List.length_take]; omega
    have hdl : ds.length ≤ 100 := by rw [hdv, List.length_map, List.length_take]; omega
    clear hcv hdv hov hou hne hE
    by_cases hlt : k < n
    · have hkl : k < l.length := by rw [HL.out]; exact hlt
      obtain ⟨s, hs⟩ : ∃ s, s = l[k].1 := ⟨_, rfl⟩
      obtain ⟨z, hzz⟩ : ∃ z, z = l[k].2 := ⟨_, rfl⟩
      have htk : TOk z := by rw [hzz]; exact HZ.out _ (List.getElem_mem hkl)
      obtain ⟨g, o, hA, hc⟩ := HP.out (by intro e; rw [e] at hkl; simp at hkl)
      subst hA
      obtain ⟨b, x0, x1, x2, x3, _, hdz, cs0, cs1, cs2, cs3, cs4, cs5⟩ := de_cells (de_get (w := wr) (s := s) (z := z) hkl (fun j hj i u hu => HE.out.cell' (hc j hj i u hu)) (by rw [hs, hzz]))
      obtain ⟨ab, a0, a1, a2, a3, ha6, haz⟩ := de_names s (z.tdiv T18 * T18)
      obtain ⟨rb, r0, r1, r2, r3, hr6, hrz⟩ := de_names s (z - z.tdiv T18 * T18)
      have HM := Lib.hid (fun W => sSplit z W htk.1 (by have := htk.2; have := htk.1; unfold FitT; omega))
      rw [hdz, haz, hrz] at HM
      have HA6 := Lib.hid (show dcell6 (whole (tq l[k])) = [.string s, .bool ab, .int .u64 a0, .int .u64 a1, .int .u64 a2, .int .u64 a3] by rw [← ha6, hs, hzz]; rfl)
      have HR6 := Lib.hid (show dcell6 (tr l[k]) = [.string s, .bool rb, .int .u64 r0, .int .u64 r1, .int .u64 r2, .int .u64 r3] by rw [← hr6, hs, hzz]; rfl)
      have ONEA := Lib.hid (show ∀ u ∈ ([.string s, .bool ab, .int .u64 a0, .int .u64 a1, .int .u64 a2, .int .u64 a3] : List Value), u.oneCell' = true from fun u hu => by rw [← HA6.out] at hu; exact dcell6_one _ u hu)
      have ONER := Lib.hid (show ∀ u ∈ ([.string s, .bool rb, .int .u64 r0, .int .u64 r1, .int .u64 r2, .int .u64 r3] : List Value), u.oneCell' = true from fun u hu => by rw [← HR6.out] at hu; exact dcell6_one _ u hu)
      clear hs hzz hc hdz ha6 haz hr6 hrz htk
      have HLO := Lib.hid (show ∀ g, u4.ownBlock = some g → g < wr.heap.size from fun g hg => (HO.out.lt g hg).2)
      have HLO5 := Lib.hid (show ∀ g, u5.ownBlock = some g → g < wr.heap.size from fun g hg => (HP5.out.lt g hg).2)
      go_wp2_with (fail)
      go_at_call 73
      refine (HM.out _).mono ?_
      rintro e w1 ⟨rfl, hE1⟩
      obtain ⟨W, hW⟩ : ∃ W, W = (w1.alloc (.cells #[.bool ab, .int .u64 a0, .int .u64 a1, .int .u64 a2, .int .u64 a3] 39)).alloc (.cells #[.bool rb, .int .u64 r0, .int .u64 r1, .int .u64 r2, .int .u64 r3] 39) := ⟨_, rfl⟩
      obtain ⟨q, hq⟩ : ∃ q, q = wr.heap.size := ⟨_, rfl⟩
      obtain ⟨g8, hg8⟩ : ∃ g8, g8 = w1.heap.size := ⟨_, rfl⟩
      have EWR := Lib.hid (show Ext wr W by rw [hW]; exact ((ext1 _ _).trans' hE1).trans' (ext2 _ _ _))
      have EW := Lib.hid (HE.out.trans' EWR.out)
      have K7 := Lib.hid (show Blk W q 53 [.string s, .bool b, .int .u64 x0, .int .u64 x1, .int .u64 x2, .int .u64 x3] by rw [hW, hq]; exact ((blk_new0 wr _ [.string s, .bool b, .int .u64 x0, .int .u64 x1, .int .u64 x2, .int .u64 x3]).ext hE1).ext (ext2 _ _ _))
      have K8 := Lib.hid (show Blk W g8 39 [.bool ab, .int .u64 a0, .int .u64 a1, .int .u64 a2, .int .u64 a3] by rw [hW, hg8]; exact (blk_new0 w1 _ [.bool ab, .int .u64 a0, .int .u64 a1, .int .u64 a2, .int .u64 a3]).alloc _)
      have K9 := Lib.hid (show Blk W (g8 + 1) 39 [.bool rb, .int .u64 r0, .int .u64 r1, .int .u64 r2, .int .u64 r3] by rw [hW, hg8]; exact blk_new1 w1 _ _ [.bool rb, .int .u64 r0, .int .u64 r1, .int .u64 r2, .int .u64 r3])
      have hq8 : q ≤ g8 := by rw [hq, hg8]; exact ((ext1 _ _).trans' hE1).size
      have hqr : wr.heap.size ≤ q := by rw [hq]; exact Nat.le_refl _
      have hWs : wr.heap.size ≤ W.heap.size := EWR.out.size
      have HBS := Lib.hid EW.out.size
      have HOV := Lib.hid (HO.out.ext EWR.out); have HOU := Lib.hid (HP5.out.ext EWR.out); have HOVR := Lib.hid (show World.ownsRow _ _ _ _ _ _ _ from HOV.out)
      have HWW := Lib.hid hW; have HQQ := Lib.hid hq; have HG8 := Lib.hid hg8
      clear hW hq hg8 hE1 cs0 cs1 cs2 cs3 cs4 cs5
      go_upto_region 6 with fail
      rw [← HWW.out, ← HG8.out, ← HQQ.out]
      obtain ⟨c70, _, _, _, _, _, l7⟩ := six_cells K7.out
      obtain ⟨c80, c81, c82, c83, c84, l8⟩ := five_cells K8.out
      obtain ⟨c90, c91, c92, c93, c94, l9⟩ := five_cells K9.out
      have KT0 := Lib.hid (show DW11 q g8 (g8 + 1) (.string s) (.bool ab) (.int .u64 a0) (.int .u64 a1) (.int .u64 a2) (.int .u64 a3) (.bool rb) (.int .u64 r0) (.int .u64 r1) (.int .u64 r2) (.int .u64 r3) W from ⟨c70, c80, c81, c82, c83, c84, c90, c91, c92, c93, c94⟩)
      have KT0d := Lib.hid (show DW11 q g8 (g8 + 1) (.string s) (.bool ab) (.int .u64 a0) (.int .u64 a1) (.int .u64 a2) (.int .u64 a3) (.bool rb) (.int .u64 r0) (.int .u64 r1) (.int .u64 r2) (.int .u64 r3) W.drew from KT0.out)
      rw [show u4 = u4 from rfl]
      go_region_held3 (fun w' => w'.cell? ⟨q, 0, none⟩ = some (.string s) ∧ w'.cell? ⟨g8, 0, none⟩ = some (.bool ab) ∧ w'.cell? ⟨g8, 1, none⟩ = some (.int .u64 a0) ∧ w'.cell? ⟨g8, 2, none⟩ = some (.int .u64 a1) ∧ w'.cell? ⟨g8, 3, none⟩ = some (.int .u64 a2) ∧ w'.cell? ⟨g8, 4, none⟩ = some (.int .u64 a3) ∧ w'.cell? ⟨g8 + 1, 0, none⟩ = some (.bool rb) ∧ w'.cell? ⟨g8 + 1, 1, none⟩ = some (.int .u64 r0) ∧ w'.cell? ⟨g8 + 1, 2, none⟩ = some (.int .u64 r1) ∧ w'.cell? ⟨g8 + 1, 3, none⟩ = some (.int .u64 r2) ∧ w'.cell? ⟨g8 + 1, 4, none⟩ = some (.int .u64 r3)) ((show DW11 q g8 (g8 + 1) (.string s) (.bool ab) (.int .u64 a0) (.int .u64 a1) (.int .u64 a2) (.int .u64 a3) (.bool rb) (.int .u64 r0) (.int .u64 r1) (.int .u64 r2) (.int .u64 r3) _; (repeat (first | (with_reducible refine DW11.drew ?_) | (with_reducible refine DW11.alloc ?_ _))); with_reducible first | exact KT2.out | exact KT1.out | exact KT0d.out | exact KT0.out)) (first | (refine step_append_lies _ rfl (.tmp 22) (.tmp 27) 32 rfl w.heap.size 53 i0 _ 6 56 Tryz.underlying32 hi hz0 hz1 hz2 rfl (by decide) u4 cs.length (flat6 cs) rfl (by (show World.ownsRow _ _ _ _ _ _ _; (repeat (first | (with_reducible refine wrow_drew ?_) | (with_reducible refine wrow_alloc ?_ _))); with_reducible first | exact HOVR.out | exact HOVR.out)) _ 1 1 [.string s, .bool ab, .int .u64 a0, .int .u64 a1, .int .u64 a2, .int .u64 a3] rfl rfl (by first | exact cells_new _ _ _ | exact wcells_mid _ _ _ _ | exact wcells_top _ _ _ _) ONEA.out (by decide) (by unfold maxLen; omega) (by omega) (by exact Nat.le_trans HBS.out (show Ext W _ from (by (repeat (first | (with_reducible exact Ext.refl _) | (with_reducible refine wext_drew ?_) | (with_reducible refine wext_alloc ?_ _))))).size) _ rfl ?_; intro g2 cap wA hown hgrow hat hlt; have EX := Lib.hid (wext_of (W := W) hgrow (by (repeat (first | (with_reducible exact Ext.refl _) | (with_reducible refine wext_drew ?_) | (with_reducible refine wext_alloc ?_ _))))); have PA := Lib.hid (whole_push1 (x := whole (tq l[k])) HOV.out HOU.out HNE.out EW.out EX.out (by rw [HA6.out]; exact hown) hgrow hat hlt); have KT1 := Lib.hid (show DW11 q g8 (g8 + 1) (.string s) (.bool ab) (.int .u64 a0) (.int .u64 a1) (.int .u64 a2) (.int .u64 a3) (.bool rb) (.int .u64 r0) (.int .u64 r1) (.int .u64 r2) (.int .u64 r3) wA from DW11.far KT0.out EX.out hgrow HLO.out (by omega) (by omega) (by omega)); have HBA := Lib.hid PA.out.2.2.1.size; have SZA := Lib.hid (show W.heap.size ≤ wA.heap.size from Nat.le_trans EX.out.size hgrow.size); have HG2 := Lib.hid hlt; have HAT := Lib.hid (whole_at EX.out hat); (try (have LIT := Lib.hid (wfar_cells (news := [.string s, .bool rb, .int .u64 r0, .int .u64 r1, .int .u64 r2, .int .u64 r3]) hgrow (wcells_top _ _ _ _) (by first | (simp; done) | (simp; omega)) (whole_ne HLO.out (by omega))))); (try (have LIT := Lib.hid (wfar_cells (news := [.string s, .bool rb, .int .u64 r0, .int .u64 r1, .int .u64 r2, .int .u64 r3]) hgrow (wcells_mid _ _ _ _) (by first | (simp; done) | (simp; omega)) (whole_ne HLO.out (by omega))))); have HOV1 := Lib.hid PA.out.1; have HOU1 := Lib.hid PA.out.2.1; have HOUR := Lib.hid (show World.ownsRow _ _ _ _ _ _ _ from HOU1.out); have HNE1 := Lib.hid PA.out.2.2.2; clear hown hgrow hat hlt EX) | (refine step_append_lies _ rfl (.tmp 29) (.tmp 34) 32 rfl w.heap.size 53 i0 _ 6 56 Tryz.underlying32 hi hz0 hz1 hz2 rfl (by decide) u5 ds.length (flat6 ds) rfl (by (show World.ownsRow _ _ _ _ _ _ _; (repeat (first | (with_reducible refine wrow_drew ?_) | (with_reducible refine wrow_alloc ?_ _))); with_reducible first | exact HOUR.out | exact HOUR.out)) _ 1 1 [.string s, .bool rb, .int .u64 r0, .int .u64 r1, .int .u64 r2, .int .u64 r3] rfl rfl (by first | exact cells_new _ _ _ | exact LIT.out) ONER.out (by decide) (by unfold maxLen; omega) (by omega) (by exact Nat.le_trans HBA.out (show Ext wA _ from (by (repeat (first | (with_reducible exact Ext.refl _) | (with_reducible refine wext_drew ?_) | (with_reducible refine wext_alloc ?_ _))))).size) _ rfl ?_; intro g3 cap3 wB hown hgrow hat hlt; have EX2 := Lib.hid (wext_of (W := wA) hgrow (by (repeat (first | (with_reducible exact Ext.refl _) | (with_reducible refine wext_drew ?_) | (with_reducible refine wext_alloc ?_ _))))); have PB := Lib.hid (whole_push1 (x := tr l[k]) HOU1.out HOV1.out HNE1.out PA.out.2.2.1 EX2.out (by rw [HR6.out]; exact hown) hgrow hat hlt); have KT2 := Lib.hid (show DW11 q g8 (g8 + 1) (.string s) (.bool ab) (.int .u64 a0) (.int .u64 a1) (.int .u64 a2) (.int .u64 a3) (.bool rb) (.int .u64 r0) (.int .u64 r1) (.int .u64 r2) (.int .u64 r3) wB from DW11.far KT1.out EX2.out hgrow HLO5.out (by omega) (by omega) (by omega)); clear hown hgrow hat hlt EX2))
      all_goals go_wp2
      all_goals exact ⟨⟨k + 1, _, _, by omega, by go_num, ⟨by rw [List.take_succ_eq_append_getElem hkl, List.map_append, ← HV.out]; rfl, by rw [List.take_succ_eq_append_getElem hkl, List.map_append, ← HU.out]; rfl⟩, PB.out.2.1, PB.out.1, PB.out.2.2.2, PB.out.2.2.1⟩, by simp [intOf]; omega⟩
    · obtain rfl : k = n := by omega
      have hcs : cs = l.map fun x => whole (tq x) := by rw [HV.out, List.take_of_length_le (by rw [HL.out]; exact Nat.le_refl _)]
      have hds : ds = l.map tr := by rw [HU.out, List.take_of_length_le (by rw [HL.out]; exact Nat.le_refl _)]
      have HCS := Lib.hid hcs; have HDSS := Lib.hid hds
      obtain ⟨nc, hnc⟩ : ∃ m, m = cs.length := ⟨_, rfl⟩
      obtain ⟨nd, hnd⟩ : ∃ m, m = ds.length := ⟨_, rfl⟩
      obtain ⟨A4, c4, rfl, -, hat4⟩ := de_slice (n := nc) HO.out hnc.symm
      obtain ⟨A5, c5, rfl, -, hat5⟩ := de_slice (n := nd) HP5.out hnd.symm
      have HAT5 := Lib.hid hat5
      have hb4 : ∀ x ∈ cs, x.2.natAbs < B64 ^ 2 := by
        rw [hcs]; intro x hx
        obtain ⟨y, hy, rfl⟩ := List.mem_map.1 hx
        have h1 := (tok_facts (HZ.out y hy)).2.2.2.2.2.1
        have h2 : (Int.tdiv y.2 T18).natAbs ≤ 4000000000001 := h1
        show (Int.tdiv y.2 T18 * T18).natAbs < _
        unfold T18 at h2 ⊢; unfold B64; omega
      have HB5 := Lib.hid (show ∀ x ∈ ds, x.2.natAbs < B64 ^ 2 by
        rw [hds]; intro x hx
        obtain ⟨y, hy, rfl⟩ := List.mem_map.1 hx
        have h1 : (y.2 - Int.tdiv y.2 T18 * T18).natAbs < 1000000000000000000 := (tok_facts (HZ.out y hy)).2.2.2.2.2.2.1
        show (y.2 - Int.tdiv y.2 T18 * T18).natAbs < _
        unfold B64; omega)
      have HALL := Lib.hid (sDeAll A4 nc c4 cs wr hnc.symm (by omega) hat4 hb4)
      have HND := Lib.hid hnd
      have hnd100 : nd ≤ 100 := by omega
      clear hcs hds hat4 hat5 hb4 HO HP5 HV HU HNE hnc hnd
      go_wp2_with (fail)
      go_at_call 74
      refine HALL.out.mono ?_
      rintro e w2 ⟨X, ⟨v2, rfl, ho2, hE2⟩, hs2⟩
      have HO2 := Lib.hid ho2; have HS2 := Lib.hid hs2; have HE2 := Lib.hid (HE.out.trans' hE2)
      have HALL2 := Lib.hid (sDeAll A5 nd c5 ds w2 HND.out.symm (by omega) (HAT5.out.ext hE2) HB5.out)
      have HWR := Lib.hid HE.out.size
      clear ho2 hs2 hE2 HALL
      go_wp2_with (fail)
      go_at_call 74
      refine HALL2.out.mono ?_
      rintro e w3 ⟨Y, ⟨v3, rfl, ho3, hE3⟩, hs3⟩
      have HR := Lib.hid (And.intro ho3 (And.intro hE3 hs3))
      clear ho3 hE3 hs3
      go_wp2
      go_ret2
      exact ⟨X, Y, v2, v3, rfl, whole_low (HO2.out.ext HR.out.2.1) HWR.out, by rw [← HCS.out]; exact HS2.out, whole_low HR.out.1 HE2.out.size, by rw [← HDSS.out]; exact HR.out.2.2, HE2.out.trans' HR.out.2.1⟩
end Go.Proofs.YtfocejhcdcnnhaaGreatDoor

namespace Go.Proofs.YtfocejhcdcnnhaaGreatDoor
open Go Go.RowKit

/-- A whole coin's plain data as a decimal one's. -/
def wback (x : ByteArray × Int) : DP := (x.1, x.2, 0)
theorem wback_whole (x : ByteArray × Int) : dback (whole x) = wback x := by
  show (x.1, Int.tdiv (x.2 * T18) T18, Int.tmod (x.2 * T18) T18) = (x.1, x.2, 0)
  rw [Int.mul_tdiv_cancel _ (by unfold T18; omega), Int.mul_tmod_left]
set_option maxRecDepth 100000 in
set_option maxHeartbeats 1000000 in
theorem lDeciWholes (A : Option Addr) (n c : Nat) (l : List (ByteArray × Int)) (w : World) (hl : l.length = n) (hn : n ≤ 100000) (h : PlainAt w A l) :
    Calls Tryz.prog 38 #[.slice A n c] w (RetDPlain (l.map wback) w) := by
  obtain ⟨i0, hi, hz0, hz1, hz2⟩ := info_parts infoDPlan
  have HL := Lib.hid hl; have HP := Lib.hid h
  clear hl h
  go_enter Tryz.func38, Tryz.ntmps38
  go_wp2
  go_loopw [3, 8] (fun v i wr => ∃ (k : Nat) (cs : List DP), k ≤ n ∧ i = .int .i64 k ∧ cs.length = k ∧ cs = (l.map wback).take k ∧ DPlainOwn wr w.heap.size v cs ∧ Ext w wr) (fun _ i _ => n - (intOf i).toNat)
  case atStart => exact ⟨0, [], Nat.zero_le _, rfl, rfl, rfl, DPlainOwn.nil _ _, Ext.refl _⟩
  case round =>
    obtain ⟨k, cs, hk, rfl, hcl, hcv, hown, hE⟩ := hrel
    have HC := Lib.hid hcl; have HV := Lib.hid hcv; have HO := Lib.hid hown; have HE := Lib.hid hE
    clear hcl hcv hown hE
    by_cases hlt : k < n
    · have hkl : k < l.length := by rw [HL.out]; exact hlt
      obtain ⟨s, hs⟩ : ∃ s, s = l[k].1 := ⟨_, rfl⟩
      obtain ⟨z, hzz⟩ : ∃ z, z = l[k].2 := ⟨_, rfl⟩
      obtain ⟨g, o, hA, hc⟩ := HP.out (by intro e; have := congrArg List.length e; simp at this; rw [this] at hkl; simp at hkl)
      subst hA
      have hck := hc k (by simpa using hkl)
      have cs0 : wr.cell? ⟨g, o + k * 2, none⟩ = some (.string s) := HE.out.cell' (by rw [hck.1, hs]; simp [plain])
      have cs1 : wr.cell? ⟨g, o + k * 2 + 1, none⟩ = some (.int .i64 z) := HE.out.cell' (by rw [hck.2, hzz]; simp [plain])
      have HS := Lib.hid (show wback l[k] = (s, z, 0) by rw [hs, hzz]; rfl)
      clear hs hzz hck hc
      go_wp2_with (first | (at_builtin; refine wpList_append_own_at _ rfl (.tmp 12) (.tmp 19) 22 rfl w.heap.size 67 i0 _ 3 32 Tryz.underlying22 hi hz0 hz1 hz2 rfl (by decide) u3 cs.length (flat3 (cs.map dplain)) rfl (owns_ext HO.out (ext2 _ _ _)) ⟨wr.heap.size + 1, 0, none⟩ 1 1 [.string s, .int .i64 z, .int .i64 0] rfl rfl (three_new1 _ _ _ _ _ _) (three_one _ _ _ rfl rfl rfl) (by rw [HC.out]; unfold maxLen; omega) (by rw [HC.out]; omega) (by have := HE.out.size; simp; omega) ?_; intro v' w2 hown hgrow _ _; have R := Lib.hid (dplain_push (HO.out.ext (ext2 _ (planBox s z) (.cells #[.string s, .int .i64 z, .int .i64 0] 67))) (HE.out.trans' (ext2 _ _ _)) hown hgrow); clear hown hgrow))
      go_roundw
      case rel =>
        refine ⟨k + 1, cs ++ [(s, z, 0)], by omega, by go_num, by simp [HC.out], ?_, R.out.1, R.out.2⟩
        rw [HV.out, List.take_succ_eq_append_getElem (by simpa using hkl), List.getElem_map, HS.out]
      case measure => simp [intOf]; omega
    · obtain rfl : k = n := by omega
      go_wp2
      go_ret
      exact ⟨_, rfl, by have := HO.out; rw [HV.out, List.take_of_length_le (by simp [HL.out])] at this; exact this, HE.out⟩
end Go.Proofs.YtfocejhcdcnnhaaGreatDoor
