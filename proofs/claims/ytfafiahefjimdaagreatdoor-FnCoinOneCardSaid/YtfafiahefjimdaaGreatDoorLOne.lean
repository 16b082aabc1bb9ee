/-
  The walk of the law FnCoinOne: it returns true.
-/
import Derived.Test.YtfafiahefjimdaaGreatDoorIC
import Derived.Test.YtfafiahefjimdaaGreatDoorHG
import Derived.BigQuiet
import Derived.Deep.QuietTactic
namespace Go.Proofs.YtfafiahefjimdaaGreatDoor
open Go Go.RowKit

/-- A record and an answer that a region reads. -/
def A7 (p q : Nat) (s r0 : ByteArray) (z : Int) (r1 r2 r3 r4 : Bool) (w' : World) : Prop :=
  w'.cell? ⟨p, 0, none⟩ = some (.string s) ∧ w'.cell? ⟨p, 1, none⟩ = some (.int .i64 z) ∧ w'.cell? ⟨q, 0, none⟩ = some (.string r0) ∧ w'.cell? ⟨q, 1, none⟩ = some (.bool r1) ∧ w'.cell? ⟨q, 2, none⟩ = some (.bool r2) ∧ w'.cell? ⟨q, 3, none⟩ = some (.bool r3) ∧ w'.cell? ⟨q, 4, none⟩ = some (.bool r4)
theorem A7.ext {p q : Nat} {s r0 : ByteArray} {z : Int} {r1 r2 r3 r4 : Bool} {w w' : World} (h : A7 p q s r0 z r1 r2 r3 r4 w) (e : Ext w w') : A7 p q s r0 z r1 r2 r3 r4 w' :=
  ⟨e.cell' h.1, e.cell' h.2.1, e.cell' h.2.2.1, e.cell' h.2.2.2.1, e.cell' h.2.2.2.2.1, e.cell' h.2.2.2.2.2.1, e.cell' h.2.2.2.2.2.2⟩
theorem A7.drew {p q : Nat} {s r0 : ByteArray} {z : Int} {r1 r2 r3 r4 : Bool} {w : World} (h : A7 p q s r0 z r1 r2 r3 r4 w) : A7 p q s r0 z r1 r2 r3 r4 w.drew := h
theorem A7.alloc {p q : Nat} {s r0 : ByteArray} {z : Int} {r1 r2 r3 r4 : Bool} {w : World} (h : A7 p q s r0 z r1 r2 r3 r4 w) (o : Obj) : A7 p q s r0 z r1 r2 r3 r4 (w.alloc o) := h.ext (Ext.alloc' _ _)
theorem sumText_one (s : ByteArray) (z : Int) : strB (sumK [(s, z)] 1) = strB (decZ z) ++ s := by
  rw [coin_strB (s, z)]; rfl
theorem sgn_is (z : Int) : (z < 0 → sgn z = -1) ∧ (z = 0 → sgn z = 0) ∧ (0 < z → sgn z = 1) := by
  unfold sgn
  refine ⟨fun h => by rw [if_pos h], fun h => ?_, fun h => ?_⟩
  · rw [if_neg (by omega), if_neg (by omega)]
  · rw [if_neg (by omega), if_pos h]

set_option maxRecDepth 100000 in
set_option maxHeartbeats 6000000 in
theorem lawOne (s : ByteArray) (z : Int) (w : World) (_h0 : (Lit.int .i64 z).wf = true) (hL : Leaf w) :
    Calls Tryz.prog 9 #[.agg #[.string s, .int .i64 z]] w (RetE (.bool true) w) := by
  obtain ⟨W, hW⟩ : ∃ W, W = (w.alloc (.cells #[.string s, .int .i64 z] 86)) := ⟨_, rfl⟩
  have K0 := Lib.hid (show Blk W w.heap.size 86 [.string s, .int .i64 z] by rw [hW]; exact blk_new0 w 86 [.string s, .int .i64 z])
  have EW := Lib.hid (show Ext w W by rw [hW]; exact ext1 _ _)
  have c0 : W.cell? ⟨w.heap.size, 0, none⟩ = some (.string s) := (K0.out.cell 0).trans rfl
  have c1 : W.cell? ⟨w.heap.size, 1, none⟩ = some (.int .i64 z) := (K0.out.cell 1).trans rfl
  have HLL := Lib.hid hL
  have HWW := Lib.hid hW; clear hW hL
  go_enter Tryz.func9, Tryz.ntmps9
  go_upto_region 1 with fail
  rw [← HWW.out]
  go_wp2_with (fail)
  go_at_call 46
  refine (zFits1 s z _).mono ?_
  obtain ⟨b1, hb1⟩ : ∃ b, b = decide (s.size ≤ 2147483647) := ⟨_, rfl⟩
  rw [← hb1]
  have HB1 := Lib.hid hb1; clear hb1
  rintro e w1 ⟨rfl, hE⟩
  have HE1 := Lib.hid hE; clear hE
  cases b1
  · go_wp2
    go_ret
    exact ⟨rfl, EW.out.trans' HE1.out⟩
  have k1 := K0.out.ext HE1.out
  have c10 : w1.cell? ⟨w.heap.size, 0, none⟩ = some (.string s) := (k1.cell 0).trans rfl
  have c11 : w1.cell? ⟨w.heap.size, 1, none⟩ = some (.int .i64 z) := (k1.cell 1).trans rfl
  clear k1 c0 c1
  by_cases h200 : s.size ≤ 200
  case neg =>
    have d1 : decide (200 < (s.size : Int)) = true := by simp; omega
    have d1' : (200 : Int) < (s.size : Int) := by omega
    go_wp2
    go_ret
    exact ⟨rfl, EW.out.trans' HE1.out⟩
  have d1 : decide (200 < (s.size : Int)) = false := by simp; omega
  have d1' : (s.size : Int) ≤ 200 := by omega
  by_cases hz1 : z < -1099511627776
  case pos =>
    have d2 : decide (z < -1099511627776) = true := by simpa using hz1
    go_wp2
    go_ret
    exact ⟨rfl, EW.out.trans' HE1.out⟩
  have d2 : decide (z < -1099511627776) = false := by simpa using hz1
  by_cases hz2 : 1099511627776 < z
  case pos =>
    have d3 : decide (1099511627776 < z) = true := by simpa using hz2
    go_wp2
    go_ret
    exact ⟨rfl, EW.out.trans' HE1.out⟩
  have d3 : decide (1099511627776 < z) = false := by simpa using hz2
  have HSG := Lib.hid (sgn_is z)
  have HBD := Lib.hid (show z.natAbs ≤ 1125899906842624 ∧ s.size ≤ 4611686018427387904 ∧ s.size ≤ 9223372036854775807 by omega)
  have HD := Lib.hid (fun V : World => sDenom s V HBD.out.2.2)
  have HLB := Lib.hid (show ∀ x ∈ [(s, z)], x.1.size ≤ 200 ∧ -1099511627776 ≤ x.2 ∧ x.2 ≤ 1099511627776 by
    intro x hx
    rw [List.mem_singleton] at hx
    subst hx
    exact ⟨h200, by omega, by omega⟩)
  obtain ⟨dn, hdn⟩ : ∃ dn, dn = denomB s := ⟨_, rfl⟩
  rw [← hdn] at HD
  have HDN := Lib.hid hdn
  obtain ⟨r0, hr0⟩ : ∃ r0, r0 = strB (decZ z) ++ s := ⟨_, rfl⟩
  have HR0 := Lib.hid hr0
  clear h200 hdn hr0
  cases dn
  · rcases (by omega : z < 0 ∨ z = 0 ∨ 0 < z) with hlt | rfl | hgt
    · have hcb : coinBad s z = some invDenom := by unfold coinBad; rw [← HDN.out]; rw [if_neg (by decide)]
      have HAB := Lib.hid (fun (V : World) (hv : Leaf V) => iAboutOne s z V HBD.out.1 HBD.out.2.1 hv r0 false false false true HR0.out (by rw [hcb]; rfl) (by rw [HSG.out.1 (by omega)]; rfl) (by rw [HSG.out.1 (by omega)]; rfl) (by rw [HSG.out.1 (by omega)]; rfl))
      have HCE := Lib.hid (fun V : World => show Calls Tryz.prog 49 #[.agg #[.string s, .int .i64 z]] V (RetE (.string invDenom) V) by have := iCoinErr s z V HBD.out.1 HBD.out.2.2; rw [hcb] at this; exact this)
      have q0 : (z < 0) := by first | omega | (simp; omega) | simpa using (by omega : (z < 0))
      have q1 : (decide (z < 0) = true) := by first | omega | (simp; omega) | simpa using (by omega : (z < 0))
      have q2 : ((z == 0) = false) := by first | omega | (simp; omega) | simpa using (by omega : (z < 0))
      have q3 : (¬ 0 < z) := by first | omega | (simp; omega) | simpa using (by omega : (z < 0))
      have q4 : (decide (0 < z) = false) := by first | omega | (simp; omega) | simpa using (by omega : (¬ 0 < z))
      clear hcb
      go_wp2_with (first | (go_at_call 47; (with_reducible refine (HD.out _).mono ?_); rintro e w' ⟨rfl, hw⟩; obtain rfl := hw.symm) | fail)
      go_at_call 48
      refine (HAB.out _ (HLL.out.ext (EW.out.trans' HE1.out))).mono ?_
      rintro e w2 ⟨rfl, hE⟩
      obtain ⟨W3, hW3⟩ : ∃ W3, W3 = w2.alloc (.cells #[.string r0, .bool false, .bool false, .bool false, .bool true] 89) := ⟨_, rfl⟩
      have HE3 := Lib.hid (show Ext W W3 by rw [hW3]; exact (HE1.out.trans' hE).trans' (ext1 _ _))
      have KQ := Lib.hid (show Blk W3 w2.heap.size 89 [.string r0, .bool false, .bool false, .bool false, .bool true] by rw [hW3]; exact blk_new0 w2 _ [.string r0, .bool false, .bool false, .bool false, .bool true])
      have KP := Lib.hid (K0.out.ext HE3.out)
      have KK0 := Lib.hid (show A7 w.heap.size w2.heap.size s r0 z false false false true W3 from ⟨(KP.out.cell 0).trans rfl, (KP.out.cell 1).trans rfl, (KQ.out.cell 0).trans rfl, (KQ.out.cell 1).trans rfl, (KQ.out.cell 2).trans rfl, (KQ.out.cell 3).trans rfl, (KQ.out.cell 4).trans rfl⟩)
      have HW3 := Lib.hid hW3
      clear hE hW3 c10 c11
      go_upto_region 11 with fail
      rw [← HW3.out]
      go_region_held3 (fun w' => w'.cell? ⟨w.heap.size, 0, none⟩ = some (.string s) ∧ w'.cell? ⟨w.heap.size, 1, none⟩ = some (.int .i64 z) ∧ w'.cell? ⟨w2.heap.size, 0, none⟩ = some (.string r0) ∧ w'.cell? ⟨w2.heap.size, 1, none⟩ = some (.bool false) ∧ w'.cell? ⟨w2.heap.size, 2, none⟩ = some (.bool false) ∧ w'.cell? ⟨w2.heap.size, 3, none⟩ = some (.bool false) ∧ w'.cell? ⟨w2.heap.size, 4, none⟩ = some (.bool true)) ((show A7 w.heap.size w2.heap.size s r0 z false false false true _; (repeat (first | (with_reducible refine A7.drew ?_) | (with_reducible refine A7.alloc ?_ _))); with_reducible first | exact KK.out | exact KK0.out)) (first | (go_at_call 49; (with_reducible refine (HCE.out _).mono ?_); rintro e v0 ⟨rfl, hE⟩; have HX1 := Lib.hid (Ext.undrew hE); have KK := Lib.hid (KK0.out.ext HX1.out); clear hE) | (go_at_call 50; refine (sSumText (some ⟨v0.heap.size, 0, none⟩) 1 1 [(s, z)] _ rfl (by omega) HLB.out (plain_one (by rw [cell_new]; rfl) (by rw [cell_new]; rfl))).mono ?_; rw [sumText_one, ← HR0.out]; rintro e v1 ⟨rfl, hE⟩; have HX2 := Lib.hid (HX1.out.trans' ((ext1 _ _).trans' hE)); clear KK; have KK := Lib.hid (KK0.out.ext HX2.out); clear hE) | (go_at_call 51; refine (sumAwake _).mono ?_; rintro e v2 ⟨rfl, hE⟩; have HX3 := Lib.hid (HX2.out.trans' hE); clear KK; have KK := Lib.hid (KK0.out.ext HX3.out); clear hE))
      all_goals go_wp2
      all_goals go_ret
      all_goals exact ⟨rfl, (EW.out.trans' HE3.out).trans' HX3.out⟩
    · have hcb : coinBad s 0 = some invDenom := by unfold coinBad; rw [← HDN.out]; rw [if_neg (by decide)]
      have HAB := Lib.hid (fun (V : World) (hv : Leaf V) => iAboutOne s 0 V HBD.out.1 HBD.out.2.1 hv r0 false true false false HR0.out (by rw [hcb]; rfl) (by rw [HSG.out.2.1 (by omega)]; rfl) (by rw [HSG.out.2.1 (by omega)]; rfl) (by rw [HSG.out.2.1 (by omega)]; rfl))
      have HCE := Lib.hid (fun V : World => show Calls Tryz.prog 49 #[.agg #[.string s, .int .i64 0]] V (RetE (.string invDenom) V) by have := iCoinErr s 0 V HBD.out.1 HBD.out.2.2; rw [hcb] at this; exact this)
      clear hcb
      go_wp2_with (first | (go_at_call 47; (with_reducible refine (HD.out _).mono ?_); rintro e w' ⟨rfl, hw⟩; obtain rfl := hw.symm) | fail)
      go_at_call 48
      refine (HAB.out _ (HLL.out.ext (EW.out.trans' HE1.out))).mono ?_
      rintro e w2 ⟨rfl, hE⟩
      obtain ⟨W3, hW3⟩ : ∃ W3, W3 = w2.alloc (.cells #[.string r0, .bool false, .bool true, .bool false, .bool false] 89) := ⟨_, rfl⟩
      have HE3 := Lib.hid (show Ext W W3 by rw [hW3]; exact (HE1.out.trans' hE).trans' (ext1 _ _))
      have KQ := Lib.hid (show Blk W3 w2.heap.size 89 [.string r0, .bool false, .bool true, .bool false, .bool false] by rw [hW3]; exact blk_new0 w2 _ [.string r0, .bool false, .bool true, .bool false, .bool false])
      have KP := Lib.hid (K0.out.ext HE3.out)
      have KK0 := Lib.hid (show A7 w.heap.size w2.heap.size s r0 0 false true false false W3 from ⟨(KP.out.cell 0).trans rfl, (KP.out.cell 1).trans rfl, (KQ.out.cell 0).trans rfl, (KQ.out.cell 1).trans rfl, (KQ.out.cell 2).trans rfl, (KQ.out.cell 3).trans rfl, (KQ.out.cell 4).trans rfl⟩)
      have HW3 := Lib.hid hW3
      clear hE hW3 c10 c11
      go_upto_region 11 with fail
      rw [← HW3.out]
      go_region_held3 (fun w' => w'.cell? ⟨w.heap.size, 0, none⟩ = some (.string s) ∧ w'.cell? ⟨w.heap.size, 1, none⟩ = some (.int .i64 0) ∧ w'.cell? ⟨w2.heap.size, 0, none⟩ = some (.string r0) ∧ w'.cell? ⟨w2.heap.size, 1, none⟩ = some (.bool false) ∧ w'.cell? ⟨w2.heap.size, 2, none⟩ = some (.bool true) ∧ w'.cell? ⟨w2.heap.size, 3, none⟩ = some (.bool false) ∧ w'.cell? ⟨w2.heap.size, 4, none⟩ = some (.bool false)) ((show A7 w.heap.size w2.heap.size s r0 0 false true false false _; (repeat (first | (with_reducible refine A7.drew ?_) | (with_reducible refine A7.alloc ?_ _))); with_reducible first | exact KK.out | exact KK0.out)) (first | (go_at_call 49; (with_reducible refine (HCE.out _).mono ?_); rintro e v0 ⟨rfl, hE⟩; have HX1 := Lib.hid (Ext.undrew hE); have KK := Lib.hid (KK0.out.ext HX1.out); clear hE) | (go_at_call 50; refine (sSumText (some ⟨v0.heap.size, 0, none⟩) 1 1 [(s, 0)] _ rfl (by omega) HLB.out (plain_one (by rw [cell_new]; rfl) (by rw [cell_new]; rfl))).mono ?_; rw [sumText_one, ← HR0.out]; rintro e v1 ⟨rfl, hE⟩; have HX2 := Lib.hid (HX1.out.trans' ((ext1 _ _).trans' hE)); clear KK; have KK := Lib.hid (KK0.out.ext HX2.out); clear hE) | (go_at_call 51; refine (sumAwake _).mono ?_; rintro e v2 ⟨rfl, hE⟩; have HX3 := Lib.hid (HX2.out.trans' hE); clear KK; have KK := Lib.hid (KK0.out.ext HX3.out); clear hE))
      all_goals go_wp2
      all_goals go_ret
      all_goals exact ⟨rfl, (EW.out.trans' HE3.out).trans' HX3.out⟩
    · have hcb : coinBad s z = some invDenom := by unfold coinBad; rw [← HDN.out]; rw [if_neg (by decide)]
      have HAB := Lib.hid (fun (V : World) (hv : Leaf V) => iAboutOne s z V HBD.out.1 HBD.out.2.1 hv r0 false false true false HR0.out (by rw [hcb]; rfl) (by rw [HSG.out.2.2 (by omega)]; rfl) (by rw [HSG.out.2.2 (by omega)]; rfl) (by rw [HSG.out.2.2 (by omega)]; rfl))
      have HCE := Lib.hid (fun V : World => show Calls Tryz.prog 49 #[.agg #[.string s, .int .i64 z]] V (RetE (.string invDenom) V) by have := iCoinErr s z V HBD.out.1 HBD.out.2.2; rw [hcb] at this; exact this)
      have q0 : (¬ z < 0) := by first | omega | (simp; omega) | simpa using (by omega : (¬ z < 0))
      have q1 : (decide (z < 0) = false) := by first | omega | (simp; omega) | simpa using (by omega : (¬ z < 0))
      have q2 : ((z == 0) = false) := by first | omega | (simp; omega) | simpa using (by omega : (¬ z < 0))
      have q3 : (0 < z) := by first | omega | (simp; omega) | simpa using (by omega : (¬ z < 0))
      have q4 : (decide (0 < z) = true) := by first | omega | (simp; omega) | simpa using (by omega : (0 < z))
      clear hcb
      go_wp2_with (first | (go_at_call 47; (with_reducible refine (HD.out _).mono ?_); rintro e w' ⟨rfl, hw⟩; obtain rfl := hw.symm) | fail)
      go_at_call 48
      refine (HAB.out _ (HLL.out.ext (EW.out.trans' HE1.out))).mono ?_
      rintro e w2 ⟨rfl, hE⟩
      obtain ⟨W3, hW3⟩ : ∃ W3, W3 = w2.alloc (.cells #[.string r0, .bool false, .bool false, .bool true, .bool false] 89) := ⟨_, rfl⟩
      have HE3 := Lib.hid (show Ext W W3 by rw [hW3]; exact (HE1.out.trans' hE).trans' (ext1 _ _))
      have KQ := Lib.hid (show Blk W3 w2.heap.size 89 [.string r0, .bool false, .bool false, .bool true, .bool false] by rw [hW3]; exact blk_new0 w2 _ [.string r0, .bool false, .bool false, .bool true, .bool false])
      have KP := Lib.hid (K0.out.ext HE3.out)
      have KK0 := Lib.hid (show A7 w.heap.size w2.heap.size s r0 z false false true false W3 from ⟨(KP.out.cell 0).trans rfl, (KP.out.cell 1).trans rfl, (KQ.out.cell 0).trans rfl, (KQ.out.cell 1).trans rfl, (KQ.out.cell 2).trans rfl, (KQ.out.cell 3).trans rfl, (KQ.out.cell 4).trans rfl⟩)
      have HW3 := Lib.hid hW3
      clear hE hW3 c10 c11
      go_upto_region 11 with fail
      rw [← HW3.out]
      go_region_held3 (fun w' => w'.cell? ⟨w.heap.size, 0, none⟩ = some (.string s) ∧ w'.cell? ⟨w.heap.size, 1, none⟩ = some (.int .i64 z) ∧ w'.cell? ⟨w2.heap.size, 0, none⟩ = some (.string r0) ∧ w'.cell? ⟨w2.heap.size, 1, none⟩ = some (.bool false) ∧ w'.cell? ⟨w2.heap.size, 2, none⟩ = some (.bool false) ∧ w'.cell? ⟨w2.heap.size, 3, none⟩ = some (.bool true) ∧ w'.cell? ⟨w2.heap.size, 4, none⟩ = some (.bool false)) ((show A7 w.heap.size w2.heap.size s r0 z false false true false _; (repeat (first | (with_reducible refine A7.drew ?_) | (with_reducible refine A7.alloc ?_ _))); with_reducible first | exact KK.out | exact KK0.out)) (first | (go_at_call 49; (with_reducible refine (HCE.out _).mono ?_); rintro e v0 ⟨rfl, hE⟩; have HX1 := Lib.hid (Ext.undrew hE); have KK := Lib.hid (KK0.out.ext HX1.out); clear hE) | (go_at_call 50; refine (sSumText (some ⟨v0.heap.size, 0, none⟩) 1 1 [(s, z)] _ rfl (by omega) HLB.out (plain_one (by rw [cell_new]; rfl) (by rw [cell_new]; rfl))).mono ?_; rw [sumText_one, ← HR0.out]; rintro e v1 ⟨rfl, hE⟩; have HX2 := Lib.hid (HX1.out.trans' ((ext1 _ _).trans' hE)); clear KK; have KK := Lib.hid (KK0.out.ext HX2.out); clear hE) | (go_at_call 51; refine (sumAwake _).mono ?_; rintro e v2 ⟨rfl, hE⟩; have HX3 := Lib.hid (HX2.out.trans' hE); clear KK; have KK := Lib.hid (KK0.out.ext HX3.out); clear hE))
      all_goals go_wp2
      all_goals go_ret
      all_goals exact ⟨rfl, (EW.out.trans' HE3.out).trans' HX3.out⟩
  · rcases (by omega : z < 0 ∨ z = 0 ∨ 0 < z) with hlt | rfl | hgt
    · have hcb : coinBad s z = some negCoin := by unfold coinBad; rw [← HDN.out]; rw [if_pos rfl, if_pos (by omega)]
      have HAB := Lib.hid (fun (V : World) (hv : Leaf V) => iAboutOne s z V HBD.out.1 HBD.out.2.1 hv r0 false false false true HR0.out (by rw [hcb]; rfl) (by rw [HSG.out.1 (by omega)]; rfl) (by rw [HSG.out.1 (by omega)]; rfl) (by rw [HSG.out.1 (by omega)]; rfl))
      have HCE := Lib.hid (fun V : World => show Calls Tryz.prog 49 #[.agg #[.string s, .int .i64 z]] V (RetE (.string negCoin) V) by have := iCoinErr s z V HBD.out.1 HBD.out.2.2; rw [hcb] at this; exact this)
      have q0 : (z < 0) := by first | omega | (simp; omega) | simpa using (by omega : (z < 0))
      have q1 : (decide (z < 0) = true) := by first | omega | (simp; omega) | simpa using (by omega : (z < 0))
      have q2 : ((z == 0) = false) := by first | omega | (simp; omega) | simpa using (by omega : (z < 0))
      have q3 : (¬ 0 < z) := by first | omega | (simp; omega) | simpa using (by omega : (z < 0))
      have q4 : (decide (0 < z) = false) := by first | omega | (simp; omega) | simpa using (by omega : (¬ 0 < z))
      clear hcb
      go_wp2_with (first | (go_at_call 47; (with_reducible refine (HD.out _).mono ?_); rintro e w' ⟨rfl, hw⟩; obtain rfl := hw.symm) | fail)
      go_at_call 48
      refine (HAB.out _ (HLL.out.ext (EW.out.trans' HE1.out))).mono ?_
      rintro e w2 ⟨rfl, hE⟩
      obtain ⟨W3, hW3⟩ : ∃ W3, W3 = w2.alloc (.cells #[.string r0, .bool false, .bool false, .bool false, .bool true] 89) := ⟨_, rfl⟩
      have HE3 := Lib.hid (show Ext W W3 by rw [hW3]; exact (HE1.out.trans' hE).trans' (ext1 _ _))
      have KQ := Lib.hid (show Blk W3 w2.heap.size 89 [.string r0, .bool false, .bool false, .bool false, .bool true] by rw [hW3]; exact blk_new0 w2 _ [.string r0, .bool false, .bool false, .bool false, .bool true])
      have KP := Lib.hid (K0.out.ext HE3.out)
      have KK0 := Lib.hid (show A7 w.heap.size w2.heap.size s r0 z false false false true W3 from ⟨(KP.out.cell 0).trans rfl, (KP.out.cell 1).trans rfl, (KQ.out.cell 0).trans rfl, (KQ.out.cell 1).trans rfl, (KQ.out.cell 2).trans rfl, (KQ.out.cell 3).trans rfl, (KQ.out.cell 4).trans rfl⟩)
      have HW3 := Lib.hid hW3
      clear hE hW3 c10 c11
      go_upto_region 11 with fail
      rw [← HW3.out]
      go_region_held3 (fun w' => w'.cell? ⟨w.heap.size, 0, none⟩ = some (.string s) ∧ w'.cell? ⟨w.heap.size, 1, none⟩ = some (.int .i64 z) ∧ w'.cell? ⟨w2.heap.size, 0, none⟩ = some (.string r0) ∧ w'.cell? ⟨w2.heap.size, 1, none⟩ = some (.bool false) ∧ w'.cell? ⟨w2.heap.size, 2, none⟩ = some (.bool false) ∧ w'.cell? ⟨w2.heap.size, 3, none⟩ = some (.bool false) ∧ w'.cell? ⟨w2.heap.size, 4, none⟩ = some (.bool true)) ((show A7 w.heap.size w2.heap.size s r0 z false false false true _; (repeat (first | (with_reducible refine A7.drew ?_) | (with_reducible refine A7.alloc ?_ _))); with_reducible first | exact KK.out | exact KK0.out)) (first | (go_at_call 49; (with_reducible refine (HCE.out _).mono ?_); rintro e v0 ⟨rfl, hE⟩; have HX1 := Lib.hid (Ext.undrew hE); have KK := Lib.hid (KK0.out.ext HX1.out); clear hE) | (go_at_call 50; refine (sSumText (some ⟨v0.heap.size, 0, none⟩) 1 1 [(s, z)] _ rfl (by omega) HLB.out (plain_one (by rw [cell_new]; rfl) (by rw [cell_new]; rfl))).mono ?_; rw [sumText_one, ← HR0.out]; rintro e v1 ⟨rfl, hE⟩; have HX2 := Lib.hid (HX1.out.trans' ((ext1 _ _).trans' hE)); clear KK; have KK := Lib.hid (KK0.out.ext HX2.out); clear hE) | (go_at_call 51; refine (sumAwake _).mono ?_; rintro e v2 ⟨rfl, hE⟩; have HX3 := Lib.hid (HX2.out.trans' hE); clear KK; have KK := Lib.hid (KK0.out.ext HX3.out); clear hE))
      all_goals go_wp2
      all_goals go_ret
      all_goals exact ⟨rfl, (EW.out.trans' HE3.out).trans' HX3.out⟩
    · have hcb : coinBad s 0 = none := by unfold coinBad; rw [← HDN.out]; rw [if_pos rfl, if_neg (by omega)]
      have HAB := Lib.hid (fun (V : World) (hv : Leaf V) => iAboutOne s 0 V HBD.out.1 HBD.out.2.1 hv r0 true true false false HR0.out (by rw [hcb]; rfl) (by rw [HSG.out.2.1 (by omega)]; rfl) (by rw [HSG.out.2.1 (by omega)]; rfl) (by rw [HSG.out.2.1 (by omega)]; rfl))
      have HCE := Lib.hid (fun V : World => show Calls Tryz.prog 49 #[.agg #[.string s, .int .i64 0]] V (RetE (.string ⟨#[]⟩) V) by have := iCoinErr s 0 V HBD.out.1 HBD.out.2.2; rw [hcb] at this; exact this)
      clear hcb
      go_wp2_with (first | (go_at_call 47; (with_reducible refine (HD.out _).mono ?_); rintro e w' ⟨rfl, hw⟩; obtain rfl := hw.symm) | fail)
      go_at_call 48
      refine (HAB.out _ (HLL.out.ext (EW.out.trans' HE1.out))).mono ?_
      rintro e w2 ⟨rfl, hE⟩
      obtain ⟨W3, hW3⟩ : ∃ W3, W3 = w2.alloc (.cells #[.string r0, .bool true, .bool true, .bool false, .bool false] 89) := ⟨_, rfl⟩
      have HE3 := Lib.hid (show Ext W W3 by rw [hW3]; exact (HE1.out.trans' hE).trans' (ext1 _ _))
      have KQ := Lib.hid (show Blk W3 w2.heap.size 89 [.string r0, .bool true, .bool true, .bool false, .bool false] by rw [hW3]; exact blk_new0 w2 _ [.string r0, .bool true, .bool true, .bool false, .bool false])
      have KP := Lib.hid (K0.out.ext HE3.out)
      have KK0 := Lib.hid (show A7 w.heap.size w2.heap.size s r0 0 true true false false W3 from ⟨(KP.out.cell 0).trans rfl, (KP.out.cell 1).trans rfl, (KQ.out.cell 0).trans rfl, (KQ.out.cell 1).trans rfl, (KQ.out.cell 2).trans rfl, (KQ.out.cell 3).trans rfl, (KQ.out.cell 4).trans rfl⟩)
      have HW3 := Lib.hid hW3
      clear hE hW3 c10 c11
      go_upto_region 11 with fail
      rw [← HW3.out]
      go_region_held3 (fun w' => w'.cell? ⟨w.heap.size, 0, none⟩ = some (.string s) ∧ w'.cell? ⟨w.heap.size, 1, none⟩ = some (.int .i64 0) ∧ w'.cell? ⟨w2.heap.size, 0, none⟩ = some (.string r0) ∧ w'.cell? ⟨w2.heap.size, 1, none⟩ = some (.bool true) ∧ w'.cell? ⟨w2.heap.size, 2, none⟩ = some (.bool true) ∧ w'.cell? ⟨w2.heap.size, 3, none⟩ = some (.bool false) ∧ w'.cell? ⟨w2.heap.size, 4, none⟩ = some (.bool false)) ((show A7 w.heap.size w2.heap.size s r0 0 true true false false _; (repeat (first | (with_reducible refine A7.drew ?_) | (with_reducible refine A7.alloc ?_ _))); with_reducible first | exact KK.out | exact KK0.out)) (first | (go_at_call 49; (with_reducible refine (HCE.out _).mono ?_); rintro e v0 ⟨rfl, hE⟩; have HX1 := Lib.hid (Ext.undrew hE); have KK := Lib.hid (KK0.out.ext HX1.out); clear hE) | (go_at_call 50; refine (sSumText (some ⟨v0.heap.size, 0, none⟩) 1 1 [(s, 0)] _ rfl (by omega) HLB.out (plain_one (by rw [cell_new]; rfl) (by rw [cell_new]; rfl))).mono ?_; rw [sumText_one, ← HR0.out]; rintro e v1 ⟨rfl, hE⟩; have HX2 := Lib.hid (HX1.out.trans' ((ext1 _ _).trans' hE)); clear KK; have KK := Lib.hid (KK0.out.ext HX2.out); clear hE) | (go_at_call 51; refine (sumAwake _).mono ?_; rintro e v2 ⟨rfl, hE⟩; have HX3 := Lib.hid (HX2.out.trans' hE); clear KK; have KK := Lib.hid (KK0.out.ext HX3.out); clear hE))
      all_goals go_wp2
      all_goals go_ret
      all_goals exact ⟨rfl, (EW.out.trans' HE3.out).trans' HX3.out⟩
    · have hcb : coinBad s z = none := by unfold coinBad; rw [← HDN.out]; rw [if_pos rfl, if_neg (by omega)]
      have HAB := Lib.hid (fun (V : World) (hv : Leaf V) => iAboutOne s z V HBD.out.1 HBD.out.2.1 hv r0 true false true false HR0.out (by rw [hcb]; rfl) (by rw [HSG.out.2.2 (by omega)]; rfl) (by rw [HSG.out.2.2 (by omega)]; rfl) (by rw [HSG.out.2.2 (by omega)]; rfl))
      have HCE := Lib.hid (fun V : World => show Calls Tryz.prog 49 #[.agg #[.string s, .int .i64 z]] V (RetE (.string ⟨#[]⟩) V) by have := iCoinErr s z V HBD.out.1 HBD.out.2.2; rw [hcb] at this; exact this)
      have q0 : (¬ z < 0) := by first | omega | (simp; omega) | simpa using (by omega : (¬ z < 0))
      have q1 : (decide (z < 0) = false) := by first | omega | (simp; omega) | simpa using (by omega : (¬ z < 0))
      have q2 : ((z == 0) = false) := by first | omega | (simp; omega) | simpa using (by omega : (¬ z < 0))
      have q3 : (0 < z) := by first | omega | (simp; omega) | simpa using (by omega : (¬ z < 0))
      have q4 : (decide (0 < z) = true) := by first | omega | (simp; omega) | simpa using (by omega : (0 < z))
      clear hcb
      go_wp2_with (first | (go_at_call 47; (with_reducible refine (HD.out _).mono ?_); rintro e w' ⟨rfl, hw⟩; obtain rfl := hw.symm) | fail)
      go_at_call 48
      refine (HAB.out _ (HLL.out.ext (EW.out.trans' HE1.out))).mono ?_
      rintro e w2 ⟨rfl, hE⟩
      obtain ⟨W3, hW3⟩ : ∃ W3, W3 = w2.alloc (.cells #[.string r0, .bool true, .bool false, .bool true, .bool false] 89) := ⟨_, rfl⟩
      have HE3 := Lib.hid (show Ext W W3 by rw [hW3]; exact (HE1.out.trans' hE).trans' (ext1 _ _))
      have KQ := Lib.hid (show Blk W3 w2.heap.size 89 [.string r0, .bool true, .bool false, .bool true, .bool false] by rw [hW3]; exact blk_new0 w2 _ [.string r0, .bool true, .bool false, .bool true, .bool false])
      have KP := Lib.hid (K0.out.ext HE3.out)
      have KK0 := Lib.hid (show A7 w.heap.size w2.heap.size s r0 z true false true false W3 from ⟨(KP.out.cell 0).trans rfl, (KP.out.cell 1).trans rfl, (KQ.out.cell 0).trans rfl, (KQ.out.cell 1).trans rfl, (KQ.out.cell 2).trans rfl, (KQ.out.cell 3).trans rfl, (KQ.out.cell 4).trans rfl⟩)
      have HW3 := Lib.hid hW3
      clear hE hW3 c10 c11
      go_upto_region 11 with fail
      rw [← HW3.out]
      go_region_held3 (fun w' => w'.cell? ⟨w.heap.size, 0, none⟩ = some (.string s) ∧ w'.cell? ⟨w.heap.size, 1, none⟩ = some (.int .i64 z) ∧ w'.cell? ⟨w2.heap.size, 0, none⟩ = some (.string r0) ∧ w'.cell? ⟨w2.heap.size, 1, none⟩ = some (.bool true) ∧ w'.cell? ⟨w2.heap.size, 2, none⟩ = some (.bool false) ∧ w'.cell? ⟨w2.heap.size, 3, none⟩ = some (.bool true) ∧ w'.cell? ⟨w2.heap.size, 4, none⟩ = some (.bool false)) ((show A7 w.heap.size w2.heap.size s r0 z true false true false _; (repeat (first | (with_reducible refine A7.drew ?_) | (with_reducible refine A7.alloc ?_ _))); with_reducible first | exact KK.out | exact KK0.out)) (first | (go_at_call 49; (with_reducible refine (HCE.out _).mono ?_); rintro e v0 ⟨rfl, hE⟩; have HX1 := Lib.hid (Ext.undrew hE); have KK := Lib.hid (KK0.out.ext HX1.out); clear hE) | (go_at_call 50; refine (sSumText (some ⟨v0.heap.size, 0, none⟩) 1 1 [(s, z)] _ rfl (by omega) HLB.out (plain_one (by rw [cell_new]; rfl) (by rw [cell_new]; rfl))).mono ?_; rw [sumText_one, ← HR0.out]; rintro e v1 ⟨rfl, hE⟩; have HX2 := Lib.hid (HX1.out.trans' ((ext1 _ _).trans' hE)); clear KK; have KK := Lib.hid (KK0.out.ext HX2.out); clear hE) | (go_at_call 51; refine (sumAwake _).mono ?_; rintro e v2 ⟨rfl, hE⟩; have HX3 := Lib.hid (HX2.out.trans' hE); clear KK; have KK := Lib.hid (KK0.out.ext HX3.out); clear hE))
      all_goals go_wp2
      all_goals go_ret
      all_goals exact ⟨rfl, (EW.out.trans' HE3.out).trans' HX3.out⟩
end Go.Proofs.YtfafiahefjimdaaGreatDoor
