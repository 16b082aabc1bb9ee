/-
  The contracts of types.Coin's SafeSub and of impl.SubOne, SubAmount.
-/
import Derived.Test.YtagfbefgcijegaaGreatDoorOneC
import Derived.Test.YtagfbefgcijegaaGreatDoorGE
namespace Go.Proofs.YtagfbefgcijegaaGreatDoor
open Go Go.RowKit

/-- The difference of coins, or an error. -/
def RetSafe1 (s : ByteArray) (z : Int) (w : World) (e : Ending) (w' : World) : Prop := ∃ b, e = .returned (.tuple #[.agg #[.string s, .pointer (some ⟨b, 0, none⟩)], .nilIface]) ∧ BigAt w' b z ∧ Ext w w'
def RetSafeNo (w : World) (e : Ending) (w' : World) : Prop := ∃ b, e = .returned (.tuple #[.agg #[.string ⟨#[]⟩, .pointer none], .iface 134 (.pointer (some ⟨b, 0, none⟩))]) ∧ Ext w w'

set_option maxRecDepth 100000 in
theorem tSafeSubOther (s t : ByteArray) (a b : Nat) (w : World) (hst : s ≠ t) :
    Calls Tryz.prog 91 #[coinV s a, coinV t b] w (RetSafeNo w) := by
  have hne : (s.toList == t.toList) = false := by rw [key_beq]; simpa using hst
  clear hst
  have K2 := Lib.hid (blk_new2 w (coinBox s a) (coinBox t b) 81 [.string ⟨#[]⟩, .pointer none])
  go_enter Tryz.func91, Tryz.ntmps91
  go_wp2_with (fail)
  go_at_call 136
  refine (eNew _ _).mono ?_
  rintro e w2 ⟨eb, rfl, _, hE⟩
  have HE := Lib.hid hE
  have kz := Lib.hid (K2.out.ext hE)
  have d0 : w2.cell? ⟨w.heap.size + 2, 0, none⟩ = some (.string ⟨#[]⟩) := (kz.out.cell 0).trans rfl
  have d1 : w2.cell? ⟨w.heap.size + 2, 1, none⟩ = some (.pointer none) := (kz.out.cell 1).trans rfl
  have f0 := kz.out.frozen 0
  have f1 := kz.out.frozen 1
  clear hE
  go_wp2
  exact bodyPost_ret (v := .tuple #[.agg #[.string ⟨#[]⟩, .pointer none], .iface 134 (.pointer (some ⟨eb, 0, none⟩))]) (by simp [results, Tryz.results91, go_sem, d0, d1]) rfl ⟨eb, rfl, Only.ext ((ext3 _ _ _ _).trans' HE.out) (((Only.refl _ _).set_ 0 _).set_ 1 _) (by omega)⟩

set_option maxRecDepth 100000 in
set_option maxHeartbeats 1000000 in
theorem tSafeSub (s : ByteArray) (a b : Nat) (y z : Int) (w : World) (hu : BigAt w a y) (hv : BigAt w b z) (hy : y.natAbs < B64) (hz : z.natAbs < B64) (hs : (y - z).natAbs < B64) :
    Calls Tryz.prog 91 #[coinV s a, coinV s b] w (fun e w' => (0 ≤ y - z ∧ RetSafe1 s (y - z) w e w') ∨ (y - z < 0 ∧ RetSafeNo w e w')) := by
  have e3 := ext3 w (coinBox s a) (coinBox s b) coinZero
  obtain ⟨W, hW⟩ : ∃ W, W = ((w.alloc (coinBox s a)).alloc (coinBox s b)).alloc coinZero := ⟨_, rfl⟩
  have K0 := Lib.hid (show Blk W w.heap.size 81 [.string s, .pointer (some ⟨a, 0, none⟩)] by rw [hW]; exact ((blk_new0 w 81 [.string s, .pointer (some ⟨a, 0, none⟩)]).alloc _).alloc _)
  have K1 := Lib.hid (show Blk W (w.heap.size + 1) 81 [.string s, .pointer (some ⟨b, 0, none⟩)] by rw [hW]; exact (blk_new1 w (coinBox s a) 81 [.string s, .pointer (some ⟨b, 0, none⟩)]).alloc _)
  have K2 := Lib.hid (show Blk W (w.heap.size + 2) 81 [.string ⟨#[]⟩, .pointer none] by rw [hW]; exact blk_new2 w (coinBox s a) (coinBox s b) 81 [.string ⟨#[]⟩, .pointer none])
  rw [← hW] at e3
  have HU := Lib.hid (hu.ext e3); have HV := Lib.hid (hv.ext e3); have E3 := Lib.hid e3; have HWW := Lib.hid hW
  clear hu hv e3 hW
  have KS0 := Lib.hid (show C4 w.heap.size (w.heap.size + 1) s a s b W from ⟨(K0.out.cell 0).trans rfl, (K0.out.cell 1).trans rfl, (K1.out.cell 0).trans rfl, (K1.out.cell 1).trans rfl⟩)
  have c00 := KS0.out.1; have c01 := KS0.out.2.1; have c10 := KS0.out.2.2.1; have c11 := KS0.out.2.2.2
  have l10 : w.heap.size + 1 < W.heap.size := cell_lt c10
  go_enter Tryz.func91, Tryz.ntmps91
  go_upto_region 3 with fail
  rw [← HWW.out]
  go_cut [6] (fun s6 wx => CoinBox s (y - z) W s6 wx)
  case first =>
    go_region_held3 (fun w' => w'.cell? ⟨w.heap.size, 0, none⟩ = some (.string s) ∧ w'.cell? ⟨w.heap.size, 1, none⟩ = some (.pointer (some ⟨a, 0, none⟩)) ∧ w'.cell? ⟨w.heap.size + 1, 0, none⟩ = some (.string s) ∧ w'.cell? ⟨w.heap.size + 1, 1, none⟩ = some (.pointer (some ⟨b, 0, none⟩))) ((show C4 w.heap.size (w.heap.size + 1) s a s b _; (repeat (first | (with_reducible refine C4.drew ?_) | (with_reducible refine C4.alloc ?_ _) | (with_reducible refine C4.set1 ?_ ?_ ?_; rotate_left; omega; omega))); with_reducible first | exact KS1.out | exact KS0.out))
      (first | (go_at_call 94; refine (mSub a b y z _ (by first | exact HU.out.ext (Ext.drewN' _ 1) | exact HU.out.ext (extAD _ _)) (by first | exact HV.out.ext (Ext.drewN' _ 1) | exact HV.out.ext (extAD _ _)) hy hz hs).mono ?_; rintro e w1 ⟨r, rfl, hB, hE⟩; have HB := Lib.hid hB; have HE := Lib.hid (show Ext W w1 by with_reducible first | exact coinE0 hE | exact coinE1 hE); have KS1 := Lib.hid (KS0.out.ext HE.out); have sz := HE.out.size; (try ((with_reducible have K9 := Lib.hid (coinM1 hE)); have q0 : w1.cell? ⟨W.heap.size, 0, none⟩ = some (.string ⟨#[]⟩) := (K9.out.cell 0).trans rfl; have q1 : w1.cell? ⟨W.heap.size, 1, none⟩ = some (.pointer none) := (K9.out.cell 1).trans rfl; have g0 := K9.out.frozen 0; have g1 := K9.out.frozen 1)); clear hE hB))
    all_goals (go_wp2_with fail; go_meet; first | exact coinBox_new s HB.out HE.out | exact coinBox_old s K9.out (Nat.le_refl _) HB.out HE.out)
  case rest =>
    obtain ⟨p, r, rfl, hp, hK, hB, hE⟩ := hcut
    have HP := Lib.hid hp; have HK := Lib.hid hK; have HB := Lib.hid hB; have HE := Lib.hid hE
    have c0 : wc.cell? ⟨p, 0, none⟩ = some (.string s) := (hK.cell 0).trans rfl
    have c1 : wc.cell? ⟨p, 1, none⟩ = some (.pointer (some ⟨r, 0, none⟩)) := (hK.cell 1).trans rfl
    clear hp hK hB hE c00 c01 c10 c11 l10
    obtain ⟨g, hg⟩ : ∃ g, g = (sgn (y - z) == -1) := ⟨_, rfl⟩
    have HG := Lib.hid hg
    have HN := Lib.hid (show (g = true → y - z < 0) ∧ (g = false → 0 ≤ y - z) by
      rw [hg]; unfold sgn
      by_cases h1 : y - z < 0
      · rw [if_pos h1]; exact ⟨fun _ => h1, fun h => by simp at h⟩
      · rw [if_neg h1]; exact ⟨fun h => by split at h <;> simp at h, fun _ => by omega⟩)
    clear hg
    go_wp2_with (fail)
    go_at_call 138
    refine (tIsNegative s r (y - z) _ HB.out).mono ?_
    rw [← HG.out]
    rintro e w2 ⟨rfl, hE⟩
    have HE2 := Lib.hid (HE.out.trans' hE)
    have d0 : w2.cell? ⟨p, 0, none⟩ = some (.string s) := hE.cell' c0
    have d1 : w2.cell? ⟨p, 1, none⟩ = some (.pointer (some ⟨r, 0, none⟩)) := hE.cell' c1
    have HB2 := Lib.hid (HB.out.ext hE)
    clear hE c0 c1
    cases g
    · have kz := Lib.hid (K2.out.ext HE2.out)
      have d2 : w2.cell? ⟨w.heap.size + 2, 0, none⟩ = some (.string ⟨#[]⟩) := (kz.out.cell 0).trans rfl
      have d3 : w2.cell? ⟨w.heap.size + 2, 1, none⟩ = some (.pointer none) := (kz.out.cell 1).trans rfl
      have f0 := kz.out.frozen 0
      have f1 := kz.out.frozen 1
      go_wp2
      exact bodyPost_ret (v := .tuple #[coinV s r, .nilIface]) (by simp [results, Tryz.results91, go_sem, d2, d3]) rfl (Or.inl ⟨HN.out.2 (by first | rfl | trivial), r, rfl, two_done (E3.out.trans' HE2.out) (by omega) kz.out HB2.out _ _⟩)
    · clear d0 d1
      go_wp2_with (fail)
      go_at_call 136
      refine (eNew _ _).mono ?_
      rintro e w3 ⟨eb, rfl, _, hE⟩
      have HE3 := Lib.hid (HE2.out.trans' hE)
      have kz := Lib.hid (K2.out.ext HE3.out)
      have d2 : w3.cell? ⟨w.heap.size + 2, 0, none⟩ = some (.string ⟨#[]⟩) := (kz.out.cell 0).trans rfl
      have d3 : w3.cell? ⟨w.heap.size + 2, 1, none⟩ = some (.pointer none) := (kz.out.cell 1).trans rfl
      have f0 := kz.out.frozen 0
      have f1 := kz.out.frozen 1
      clear hE
      go_wp2
      exact bodyPost_ret (v := .tuple #[.agg #[.string ⟨#[]⟩, .pointer none], .iface 134 (.pointer (some ⟨eb, 0, none⟩))]) (by simp [results, Tryz.results91, go_sem, d2, d3]) rfl (Or.inr ⟨HN.out.1 (by first | rfl | trivial), eb, rfl, Only.ext (E3.out.trans' HE3.out) (((Only.refl _ _).set_ 0 _).set_ 1 _) (by omega)⟩)
end Go.Proofs.YtagfbefgcijegaaGreatDoor
