/-
  The contracts of types.Coin's SubAmount and SafeSub, of impl.SubOne and SubAmount.
-/
import Derived.Test.YtagfbefgcijegaaGreatDoorOneA
import Derived.Deep.RegionHeld3
import Derived.Deep.DeepCutAuto
namespace Go.Proofs.YtagfbefgcijegaaGreatDoor
open Go Go.RowKit

/-- A new variable that holds a coin. -/
def CoinBox (s : ByteArray) (z : Int) (W : World) (v : Value) (wx : World) : Prop := ∃ p r, v = .pointer (some ⟨p, 0, none⟩) ∧ W.heap.size ≤ p ∧ Blk wx p 81 [.string s, .pointer (some ⟨r, 0, none⟩)] ∧ BigAt wx r z ∧ Ext W wx
theorem coinBox_new {W w1 : World} {r : Nat} {z : Int} (s : ByteArray) (hB : BigAt w1 r z) (hE : Ext W w1) : CoinBox s z W (.pointer (some ⟨w1.heap.size, 0, none⟩)) (w1.alloc (.cells #[.string s, .pointer (some ⟨r, 0, none⟩)] 81)) :=
  ⟨_, r, rfl, hE.size, blk_new0 w1 _ [.string s, .pointer (some ⟨r, 0, none⟩)], hB.ext (Ext.alloc' _ _), hE.trans' (Ext.alloc' _ _)⟩
theorem coinBox_old {W w1 : World} {r p : Nat} {z : Int} {c d : Value} (s : ByteArray) (hK : Blk w1 p 81 [c, d]) (hp : W.heap.size ≤ p) (hB : BigAt w1 r z) (hE : Ext W w1) : CoinBox s z W (.pointer (some ⟨p, 0, none⟩)) ((w1.setCell ⟨p, 0, none⟩ (.string s)).setCell ⟨p, 1, none⟩ (.pointer (some ⟨r, 0, none⟩))) :=
  ⟨p, r, rfl, hp, (hK.set_ 0 (.string s)).set_ 1 (.pointer (some ⟨r, 0, none⟩)), (hB.set_ hK 0 _).set_ (hK.set_ 0 _) 1 _, Only.ext hE (((Only.refl _ _).set_ 0 _).set_ 1 _) hp⟩
theorem extAD (W : World) (o : Obj) : Ext W (W.alloc o).drew := (Ext.alloc' W o).trans' (Ext.drewN' _ 1)
theorem ext_new {W w1 : World} {o : Obj} (h : Ext (W.alloc o).drew w1) : Ext (W.alloc o) w1 := ⟨h.os, h.tape, h.output, h.size, h.block⟩
abbrev noCoin : Obj := .cells #[.string ⟨#[]⟩, .pointer none] 81

set_option maxRecDepth 100000 in
set_option maxHeartbeats 1000000 in
theorem tSubAmount (s : ByteArray) (a b : Nat) (y z : Int) (w : World) (hu : BigAt w a y) (hv : BigAt w b z) (hy : y.natAbs < B64) (hz : z.natAbs < B64) (hs : (y - z).natAbs < B64) (hp : 0 ≤ y - z) :
    Calls Tryz.prog 96 #[coinV s a, .agg #[.pointer (some ⟨b, 0, none⟩)]] w (RetCoin s (y - z) w) := by
  have e3 := ext3 w (coinBox s a) (intBox b) noCoin
  have HSG := Lib.hid (show (sgn (y - z) == -1) = false by unfold sgn; rw [if_neg (by omega)]; split <;> rfl)
  obtain ⟨W, hW⟩ : ∃ W, W = ((w.alloc (coinBox s a)).alloc (intBox b)).alloc noCoin := ⟨_, rfl⟩
  have K0 := Lib.hid (show Blk W w.heap.size 81 [.string s, .pointer (some ⟨a, 0, none⟩)] by rw [hW]; exact ((blk_new0 w 81 [.string s, .pointer (some ⟨a, 0, none⟩)]).alloc (intBox b)).alloc noCoin)
  have K1 := Lib.hid (show Blk W (w.heap.size + 1) 79 [.pointer (some ⟨b, 0, none⟩)] by rw [hW]; exact (blk_new1 w (coinBox s a) 79 [.pointer (some ⟨b, 0, none⟩)]).alloc noCoin)
  have K2 := Lib.hid (show Blk W (w.heap.size + 2) 81 [.string ⟨#[]⟩, .pointer none] by rw [hW]; exact blk_new2 w (coinBox s a) (intBox b) 81 [.string ⟨#[]⟩, .pointer none])
  rw [← hW] at e3
  have HU := Lib.hid (hu.ext e3); have HV := Lib.hid (hv.ext e3); have E3 := Lib.hid e3; have HWW := Lib.hid hW
  clear hu hv e3 hp hW
  have c00 : W.cell? ⟨w.heap.size, 0, none⟩ = some (.string s) := (K0.out.cell 0).trans rfl
  have c01 : W.cell? ⟨w.heap.size, 1, none⟩ = some (.pointer (some ⟨a, 0, none⟩)) := (K0.out.cell 1).trans rfl
  have c10 : W.cell? ⟨w.heap.size + 1, 0, none⟩ = some (.pointer (some ⟨b, 0, none⟩)) := (K1.out.cell 0).trans rfl
  have n00 := World.new_ne W _ c00
  have n10 := World.new_ne W _ c10
  go_enter Tryz.func96, Tryz.ntmps96
  go_upto_region 1 with fail
  rw [← HWW.out]
  go_cut [5] (fun s5 wx => CoinBox s (y - z) W s5 wx)
  case first =>
    go_region_held3 (fun w' => w'.cell? ⟨w.heap.size, 0, none⟩ = some (.string s) ∧ w'.cell? ⟨w.heap.size, 1, none⟩ = some (.pointer (some ⟨a, 0, none⟩)) ∧ w'.cell? ⟨w.heap.size + 1, 0, none⟩ = some (.pointer (some ⟨b, 0, none⟩))) (first | exact K8 | go_keep)
      (first | (go_at_call 94; refine (mSub a b y z _ (by first | exact HU.out.ext (Ext.drewN' _ 1) | exact HU.out.ext (extAD _ _)) (by first | exact HV.out.ext (Ext.drewN' _ 1) | exact HV.out.ext (extAD _ _)) hy hz hs).mono ?_; rintro e w1 ⟨r, rfl, hB, hE⟩; have HB := Lib.hid hB; have HE := Lib.hid (show Ext W w1 by first | exact Ext.undrew hE | exact (Ext.alloc' _ _).trans' (ext_new hE)); have K8 := And.intro (HE.out.cell' c00) (And.intro (HE.out.cell' c01) (HE.out.cell' c10)); (try (have K9 := Lib.hid ((blk_new0 W 81 [.string ⟨#[]⟩, .pointer none]).ext (ext_new hE)); have q0 : w1.cell? ⟨W.heap.size, 0, none⟩ = some (.string ⟨#[]⟩) := (K9.out.cell 0).trans rfl; have q1 : w1.cell? ⟨W.heap.size, 1, none⟩ = some (.pointer none) := (K9.out.cell 1).trans rfl; have g0 := K9.out.frozen 0; have g1 := K9.out.frozen 1)); clear hE hB))
    all_goals (go_wp2_with fail; go_meet; first | exact coinBox_new s HB.out HE.out | exact coinBox_old s K9.out (Nat.le_refl _) HB.out HE.out)
  case rest =>
    obtain ⟨p, r, rfl, hp, hK, hB, hE⟩ := hcut
    have HP := Lib.hid hp; have HK := Lib.hid hK; have HB := Lib.hid hB; have HE := Lib.hid hE
    have c0 : wc.cell? ⟨p, 0, none⟩ = some (.string s) := (hK.cell 0).trans rfl
    have c1 : wc.cell? ⟨p, 1, none⟩ = some (.pointer (some ⟨r, 0, none⟩)) := (hK.cell 1).trans rfl
    clear hp hK hB hE c00 c01 c10 n00 n10
    go_wp2_with (fail)
    go_at_call 138
    refine (tIsNegative s r (y - z) _ HB.out).mono ?_
    rw [HSG.out]
    rintro e w2 ⟨rfl, hE⟩
    have HE2 := Lib.hid (HE.out.trans' hE)
    have d0 : w2.cell? ⟨p, 0, none⟩ = some (.string s) := hE.cell' c0
    have d1 : w2.cell? ⟨p, 1, none⟩ = some (.pointer (some ⟨r, 0, none⟩)) := hE.cell' c1
    have HB2 := Lib.hid (HB.out.ext hE)
    have kz := Lib.hid (K2.out.ext HE2.out)
    have d2 : w2.cell? ⟨w.heap.size + 2, 0, none⟩ = some (.string ⟨#[]⟩) := (kz.out.cell 0).trans rfl
    have d3 : w2.cell? ⟨w.heap.size + 2, 1, none⟩ = some (.pointer none) := (kz.out.cell 1).trans rfl
    have f0 := kz.out.frozen 0
    have f1 := kz.out.frozen 1
    clear hE c0 c1
    go_wp2
    exact bodyPost_ret (v := coinV s r) (by simp [results, Tryz.results96, go_sem, d2, d3]) rfl ⟨r, rfl, two_done (E3.out.trans' HE2.out) (by omega) kz.out HB2.out _ _⟩
end Go.Proofs.YtagfbefgcijegaaGreatDoor
