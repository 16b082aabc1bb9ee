/-
  Decimals: from big integers, the limits, Neg, Clone, the questions.
  Decimals: comparisons, the range, Add and Sub.
  Decimals out of plain data: impl.unit, impl.dec, impl.decCoin.
  Decimal coins one by one: impl.decCoin, types.DecCoin's comparisons, questions and Add.
-/
import Derived.Test.YtcoffndnfaemoaaGreatDoorGO
import Derived.Deep.RegionHeld3
import Derived.Deep.RegionLaw
namespace Go.Proofs.YtcoffndnfaemoaaGreatDoor
open Go Go.RowKit

theorem RetNB.bf {b : Nat} {z : Int} {w w2 : World} {e : Ending} {w' : World} (h : RetNB b z w2 e w') (hE : Ext w w2) (hb : w.heap.size ≤ b) : e = .returned (.pointer (some ⟨b, 0, none⟩)) ∧ BigF w w' b z ∧ Only b w2 w' := by
  obtain ⟨rfl, g, c, hv, hg, ho⟩ := h
  exact ⟨rfl, ⟨hb, g, c, hv, Nat.le_trans hE.size hg⟩, ho⟩
/-- The result's cell, filled. -/
theorem dec_fin {w w1 w2 : World} {b r : Nat} {z : Int} {cs : List Value} {v : Value} (hE : Ext w w1) (hf : BigF w w2 b z) (ho : Only b w1 w2) (hb : w.heap.size ≤ b) (hr : w.heap.size ≤ r) (hk : Blk w2 r 84 cs) :
    BigF w (w2.setCell ⟨r, 0, none⟩ v) b z ∧ Ext w (w2.setCell ⟨r, 0, none⟩ v) :=
  ⟨hf.set_ hk 0 v, Only.ext (Only.ext hE ho hb) ((Only.refl r w2).set_ 0 v) hr⟩

set_option maxRecDepth 100000 in
theorem dTen (w : World) : Calls Tryz.prog 226 #[] w (RetPK 10 w) := by
  go_enter Tryz.func226, Tryz.ntmps226
  go_wp2_with (go_at_call 86; refine (kNew 10 _ (by omega) (by omega)).mono ?_; rintro e w1 ⟨p1, rfl, hr⟩; have HR := Lib.hid hr; clear hr)
  go_ret
  exact ⟨_, rfl, HR.out⟩
set_option maxRecDepth 100000 in
theorem dZeroI (w : World) : Calls Tryz.prog 182 #[] w (RetPK 0 w) := by
  go_enter Tryz.func182, Tryz.ntmps182
  go_wp2_with (go_at_call 86; refine (kNew 0 _ (by omega) (by omega)).mono ?_; rintro e w1 ⟨p1, rfl, hr⟩; have HR := Lib.hid hr; clear hr)
  go_ret
  exact ⟨_, rfl, HR.out⟩
set_option maxRecDepth 100000 in
theorem dCalc (w : World) : Calls Tryz.prog 175 #[.int .i64 18] w (RetPK 1 w) := by
  have HB := Lib.hid (new0 w)
  have E0 := Lib.hid (Ext.alloc' w (.cells #[.bool false, .slice none 0 0] 126))
  go_enter Tryz.func175, Tryz.ntmps175
  go_wp2_with (fail)
  go_at_call 226
  refine (dTen _).mono ?_
  rintro e w1 ⟨p1, rfl, h1, x1⟩
  have E1 := Lib.hid x1; have H1 := Lib.hid h1; clear x1 h1
  go_wp2_with (fail)
  go_at_call 86
  refine (kNew 0 w1 (by omega) (by omega)).mono ?_
  rintro e w2 ⟨p2, rfl, h2, x2⟩
  have hE := E1.out.trans' x2
  have n1 : p1 ≠ w.heap.size := by have := H1.out.1; have := E0.out.size; simp at *; omega
  have n2 : p2 ≠ w.heap.size := by have := h2.1; have := E1.out.size; simp at *; omega
  have HX := Lib.hid (vExp0 w.heap.size p1 p2 10 w2 (HB.out.ext hE) (H1.out.k.ext x2) h2.k n1 n2)
  have HE := Lib.hid (E0.out.trans' hE)
  clear hE h2 x2 n1 n2
  go_wp2_with (fail)
  go_at_call 225
  refine HX.out.mono ?_
  rintro e w3 h3
  obtain ⟨b, rfl, hf, hx⟩ := h3.fin HE.out (Nat.le_refl _)
  have HF := Lib.hid hf; have HX3 := Lib.hid hx
  clear h3 hf hx
  go_wp2
  go_ret
  exact ⟨b, rfl, HF.out, HX3.out⟩
set_option maxRecDepth 100000 in
theorem dPM (w : World) : Calls Tryz.prog 132 #[.int .i64 18] w (RetPK 1 w) := by
  go_enter Tryz.func132, Tryz.ntmps132
  go_wp2_with (go_at_call 175; refine (dCalc _).mono ?_; rintro e w1 ⟨p1, rfl, hr⟩; have HR := Lib.hid hr; clear hr)
  go_ret
  exact ⟨_, rfl, HR.out⟩

theorem small1 : Small 1 := by unfold Small B64; decide
set_option maxRecDepth 100000 in
theorem dFromBig (x : Nat) (z : Int) (w : World) (hx : BigK w x z) (kz : Small z) (hT : Thr w) : Calls Tryz.prog 89 #[.pointer (some ⟨x, 0, none⟩), .int .i64 18] w (RetDK z w) := by
  have e2 := ext2 w (.cells #[.pointer none] 84) (.cells #[.bool false, .slice none 0 0] 126)
  have hbr := (Blk.new w 84 [.pointer none]).alloc (.cells #[.bool false, .slice none 0 0] 126)
  have hbb := blk_new1 w (.cells #[.pointer none] 84) 126 [.bool false, .slice none 0 0]
  have E2 := Lib.hid e2; have HR := Lib.hid hbr; have HB := Lib.hid hbb; have HX := Lib.hid hx; have HT := Lib.hid hT
  have hxl := hx.lt
  clear e2 hbr hbb hx hT
  go_enter Tryz.func89, Tryz.ntmps89
  go_wp2_with (fail)
  go_at_call 132
  refine (dPM _).mono ?_
  rintro e w1 ⟨p1, rfl, h1, x1⟩
  have hE := E2.out.trans' x1
  have n1 : x ≠ p1 := by have := h1.1; simp at this; omega
  have HM := Lib.hid (nMul (w.heap.size + 1) x p1 z 1 w1 (HB.out.ext x1) (HX.out.ext hE) h1.k kz small1 n1 (HT.out.ext hE))
  have HE := Lib.hid hE; have HR1 := Lib.hid (HR.out.ext x1)
  clear hE n1 x1 h1
  go_wp2_with (fail)
  go_at_call 85
  refine HM.out.mono ?_
  rintro e w2 h2
  obtain ⟨rfl, hf, ho⟩ := h2.bf HE.out (Nat.le_succ _)
  rw [Int.mul_one] at hf
  have hk := ho.block' HR1.out (by omega)
  have c0 : w2.cell? ⟨w.heap.size, 0, none⟩ = some (.pointer none) := (hk.cell 0).trans rfl
  have fz := hk.frozen 0
  have HF := Lib.hid (fun v => dec_fin (v := v) HE.out hf ho (Nat.le_succ _) (Nat.le_refl _) hk)
  clear h2 hf ho hk
  go_wp2
  exact bodyPost_ret (v := .agg #[.pointer (some ⟨w.heap.size + 1, 0, none⟩)]) (by simp [results, Tryz.results89, go_sem, c0]) rfl ⟨_, rfl, HF.out _⟩

set_option maxRecDepth 100000 in
theorem dNegDec (x : Nat) (z : Int) (w : World) (hx : BigK w x z) (kz : Small z) : Calls Tryz.prog 278 #[.agg #[.pointer (some ⟨x, 0, none⟩)]] w (RetDK (-z) w) := by
  have e3 := ext3 w (decBox x) (.cells #[.pointer none] 84) (.cells #[.bool false, .slice none 0 0] 126)
  have hbr := (blk_new1 w (decBox x) 84 [.pointer none]).alloc (.cells #[.bool false, .slice none 0 0] 126)
  have hbb := blk_new2 w (decBox x) (.cells #[.pointer none] 84) 126 [.bool false, .slice none 0 0]
  have hxl := hx.lt
  have HN := Lib.hid (vNeg (w.heap.size + 2) x z _ (hx.ext e3) (by omega) hbb kz)
  have E3 := Lib.hid e3; have HR := Lib.hid hbr
  clear e3 hbr hbb hx
  go_enter Tryz.func278, Tryz.ntmps278
  go_wp2_with (fail)
  go_at_call 199
  refine HN.out.mono ?_
  rintro e w2 h2
  obtain ⟨rfl, hf, ho⟩ := h2.bf E3.out (by omega)
  have hk := ho.block' HR.out (by omega)
  have c0 : w2.cell? ⟨w.heap.size + 1, 0, none⟩ = some (.pointer none) := (hk.cell 0).trans rfl
  have fz := hk.frozen 0
  have HF := Lib.hid (fun v => dec_fin (v := v) E3.out hf ho (by omega) (by omega) hk)
  clear h2 hf ho hk
  go_wp2
  exact bodyPost_ret (v := .agg #[.pointer (some ⟨w.heap.size + 2, 0, none⟩)]) (by simp [results, Tryz.results278, go_sem, c0]) rfl ⟨_, rfl, HF.out _⟩
set_option maxRecDepth 100000 in
theorem dClone (x : Nat) (z : Int) (w : World) (hx : BigK w x z) (kz : Small z) : Calls Tryz.prog 163 #[.agg #[.pointer (some ⟨x, 0, none⟩)]] w (RetDK z w) := by
  have e3 := ext3 w (decBox x) (.cells #[.pointer none] 84) (.cells #[.bool false, .slice none 0 0] 126)
  have hbr := (blk_new1 w (decBox x) 84 [.pointer none]).alloc (.cells #[.bool false, .slice none 0 0] 126)
  have hbb := blk_new2 w (decBox x) (.cells #[.pointer none] 84) 126 [.bool false, .slice none 0 0]
  have hxl := hx.lt
  have HN := Lib.hid (vSet (w.heap.size + 2) x z _ (hx.ext e3) (by omega) hbb kz)
  have E3 := Lib.hid e3; have HR := Lib.hid hbr
  clear e3 hbr hbb hx
  go_enter Tryz.func163, Tryz.ntmps163
  go_wp2_with (fail)
  go_at_call 181
  refine HN.out.mono ?_
  rintro e w2 h2
  obtain ⟨rfl, hf, ho⟩ := h2.bf E3.out (by omega)
  have hk := ho.block' HR.out (by omega)
  have c0 : w2.cell? ⟨w.heap.size + 1, 0, none⟩ = some (.pointer none) := (hk.cell 0).trans rfl
  have fz := hk.frozen 0
  have HF := Lib.hid (fun v => dec_fin (v := v) E3.out hf ho (by omega) (by omega) hk)
  clear h2 hf ho hk
  go_wp2
  exact bodyPost_ret (v := .agg #[.pointer (some ⟨w.heap.size + 2, 0, none⟩)]) (by simp [results, Tryz.results163, go_sem, c0]) rfl ⟨_, rfl, HF.out _⟩
set_option maxRecDepth 100000 in
theorem dZeroDec (w : World) : Calls Tryz.prog 138 #[] w (RetDK 0 w) := by
  have e2 := ext2 w (.cells #[.pointer none] 84) (.cells #[.bool false, .slice none 0 0] 126)
  have hbr := (Blk.new w 84 [.pointer none]).alloc (.cells #[.bool false, .slice none 0 0] 126)
  have hbb := blk_new1 w (.cells #[.pointer none] 84) 126 [.bool false, .slice none 0 0]
  have E2 := Lib.hid e2; have HR := Lib.hid hbr; have HB := Lib.hid hbb
  clear e2 hbr hbb
  go_enter Tryz.func138, Tryz.ntmps138
  go_wp2_with (fail)
  go_at_call 182
  refine (dZeroI _).mono ?_
  rintro e w1 ⟨p1, rfl, h1, x1⟩
  have hE := E2.out.trans' x1
  have n1 : p1 ≠ w.heap.size + 1 := by have := h1.1; simp at this; omega
  have HM := Lib.hid (vSet (w.heap.size + 1) p1 0 w1 h1.k n1 (HB.out.ext x1) (by unfold B64; decide))
  have HE := Lib.hid hE; have HR1 := Lib.hid (HR.out.ext x1)
  clear hE n1 x1 h1
  go_wp2_with (fail)
  go_at_call 181
  refine HM.out.mono ?_
  rintro e w2 h2
  obtain ⟨rfl, hf, ho⟩ := h2.bf HE.out (Nat.le_succ _)
  have hk := ho.block' HR1.out (by omega)
  have c0 : w2.cell? ⟨w.heap.size, 0, none⟩ = some (.pointer none) := (hk.cell 0).trans rfl
  have fz := hk.frozen 0
  have HF := Lib.hid (fun v => dec_fin (v := v) HE.out hf ho (Nat.le_succ _) (Nat.le_refl _) hk)
  clear h2 hf ho hk
  go_wp2
  exact bodyPost_ret (v := .agg #[.pointer (some ⟨w.heap.size + 1, 0, none⟩)]) (by simp [results, Tryz.results138, go_sem, c0]) rfl ⟨_, rfl, HF.out _⟩

theorem smallU : Small (UPL + 1) ∧ Small UPL ∧ Small (-UPL) ∧ Small T18 ∧ Small ((2 ^ 256 : Nat) : Int) := by unfold Small UPL T18 B64; decide
theorem UPL_eq : ((2 ^ 256 : Nat) : Int) * T18 - 1 = UPL := by unfold UPL; decide
theorem UPL_eq1 : ((2 ^ 256 : Nat) : Int) * T18 = UPL + 1 := by unfold UPL; decide
theorem blk_keep {w : World} {i : Nat} {t : TypeId} {cs : List Value} (h : Blk w i t cs) (o : Obj) : Blk (w.alloc o) i t cs := h.alloc o

set_option maxRecDepth 100000 in
set_option maxHeartbeats 400000 in
theorem dUpper (w : World) (hT : Thr w) : Calls Tryz.prog 246 #[] w (RetDK UPL w) := by
  have HT := Lib.hid hT; clear hT
  have HR := Lib.hid ((Blk.new w 84 [.pointer none]).alloc (.cells #[.bool false, .slice none 0 0] 126))
  have HB := Lib.hid (blk_new1 w (.cells #[.pointer none] 84) 126 [.bool false, .slice none 0 0])
  have E0 := Lib.hid (ext2 w (.cells #[.pointer none] 84) (.cells #[.bool false, .slice none 0 0] 126))
  go_enter Tryz.func246, Tryz.ntmps246
  go_wp2_with (fail)
  go_at_call 86
  refine (kNew 2 _ (by omega) (by omega)).mono ?_
  rintro e w1 ⟨p1, rfl, h1, x1⟩
  have E1 := Lib.hid x1; have H1 := Lib.hid h1; clear x1 h1
  go_wp2_with (fail)
  go_at_call 86
  refine (kNew 256 w1 (by omega) (by omega)).mono ?_
  rintro e w2 ⟨p2, rfl, h2, x2⟩
  have hE := E1.out.trans' x2
  have n1 : p1 ≠ w.heap.size + 1 := by have := H1.out.1; simp at this; omega
  have n2 : p2 ≠ w.heap.size + 1 := by have := h2.1; have := E1.out.size; simp at this; omega
  have HX := Lib.hid (vExpo (w.heap.size + 1) p1 p2 2 256 8 0 w2 (HB.out.ext hE) (H1.out.k.ext x2) h2.k n1 n2 (by unfold B64; omega) (by unfold B64; omega) (by omega) (by omega) rfl (by omega) (by omega) (by omega) bl256 p256 (HT.out.ext (E0.out.trans' hE)))
  have HE := Lib.hid (E0.out.trans' hE); have HR2 := Lib.hid (HR.out.ext hE)
  clear hE h2 x2 n1 n2
  go_wp2_with (fail)
  go_at_call 225
  refine HX.out.mono ?_
  rintro e w3 h3
  obtain ⟨rfl, hf3, ho3⟩ := h3.bf HE.out (Nat.le_succ _)
  have HF3 := Lib.hid hf3
  have E3 := Lib.hid (Only.ext HE.out ho3 (Nat.le_succ _))
  have HR3 := Lib.hid (ho3.block' HR2.out (by omega))
  clear h3 hf3 ho3
  have hbs := Blk.new w3 126 [.bool false, .slice none 0 0]
  have hbm := blk_new1 w3 (.cells #[.bool false, .slice none 0 0] 126) 126 [.bool false, .slice none 0 0]
  have HBS := Lib.hid (hbs.alloc (.cells #[.bool false, .slice none 0 0] 126)); have HBM := Lib.hid hbm
  have X3 := Lib.hid (ext2 w3 (.cells #[.bool false, .slice none 0 0] 126) (.cells #[.bool false, .slice none 0 0] 126))
  clear hbs hbm
  go_wp2_with (fail)
  go_at_call 177
  refine (dPrec _ (HT.out.ext (E3.out.trans' X3.out))).mono ?_
  rintro e w4 ⟨p4, rfl, h4, x4⟩
  have hE4 := X3.out.trans' x4
  have n4 : w.heap.size + 1 ≠ p4 := by have h1 := h4.1; have h2 := HF3.out.k.lt; have h3 := X3.out.size; omega
  have HM := Lib.hid (nMul (w3.heap.size + 1) (w.heap.size + 1) p4 ((2 ^ 256 : Nat) : Int) T18 w4 (HBM.out.ext x4) (HF3.out.k.ext hE4) h4.k smallU.2.2.2.2 smallU.2.2.2.1 n4 (HT.out.ext (E3.out.trans' hE4)))
  have HE4 := Lib.hid hE4; have HBS4 := Lib.hid (HBS.out.ext x4)
  clear hE4 n4 x4 h4
  go_wp2_with (fail)
  go_at_call 85
  refine HM.out.mono ?_
  rintro e w5 h5
  obtain ⟨rfl, hf5, ho5⟩ := h5.bf HE4.out (Nat.le_succ _)
  rw [UPL_eq1] at hf5
  have HF5 := Lib.hid hf5
  have E5 := Lib.hid (Only.ext HE4.out ho5 (Nat.le_succ _))
  have HBS5 := Lib.hid (ho5.block' HBS4.out (by omega))
  clear h5 hf5 ho5
  go_wp2_with (fail)
  go_at_call 86
  refine (kNew 1 w5 (by omega) (by omega)).mono ?_
  rintro e w6 ⟨p6, rfl, h6, x6⟩
  have HS := Lib.hid (nSub w3.heap.size (w3.heap.size + 1) p6 (UPL + 1) 1 w6 (HBS5.out.ext x6) (HF5.out.k.ext x6) h6.k smallU.1 small1)
  have HE6 := Lib.hid (E5.out.trans' x6)
  clear x6 h6
  go_wp2_with (fail)
  go_at_call 255
  refine HS.out.mono ?_
  rintro e w7 h7
  obtain ⟨rfl, hf7, ho7⟩ := h7.bf HE6.out (Nat.le_refl _)
  rw [show UPL + 1 - 1 = UPL by omega] at hf7
  have HF7 := Lib.hid hf7
  have E7 := Lib.hid (E3.out.trans' (Only.ext HE6.out ho7 (Nat.le_refl _)))
  have HR7 := Lib.hid (HR3.out.ext (Only.ext HE6.out ho7 (Nat.le_refl _)))
  clear h7 hf7 ho7
  have HL := Lib.hid (dFromBig w3.heap.size UPL w7 HF7.out.k smallU.2.1 (HT.out.ext E7.out))
  go_wp2_with (fail)
  go_at_call 89
  refine HL.out.mono ?_
  rintro e w8 ⟨b, rfl, hf, hx⟩
  have hk := HR7.out.ext hx
  have c0 : w8.cell? ⟨w.heap.size, 0, none⟩ = some (.pointer none) := (hk.cell 0).trans rfl
  have fz := hk.frozen 0
  have HFF := Lib.hid (fun v => And.intro ((hf.old E7.out).set_ hk 0 v) (Only.ext (E7.out.trans' hx) ((Only.refl w.heap.size w8).set_ 0 v) (Nat.le_refl _)))
  clear hf hx hk
  go_wp2
  exact bodyPost_ret (v := .agg #[.pointer (some ⟨b, 0, none⟩)]) (by simp [results, Tryz.results246, go_sem, c0]) rfl ⟨_, rfl, HFF.out _⟩
end Go.Proofs.YtcoffndnfaemoaaGreatDoor

namespace Go.Proofs.YtcoffndnfaemoaaGreatDoor
open Go Go.RowKit

theorem cmpL {y z : Int} (h : y < z) : cmpZ y z = -1 := by unfold cmpZ; rw [if_pos h]
theorem cmpG {y z : Int} (h : z < y) : cmpZ y z = 1 := by unfold cmpZ; rw [if_neg (by omega), if_pos h]
theorem cmpE {y z : Int} (h : y = z) : cmpZ y z = 0 := by unfold cmpZ; rw [if_neg (by omega), if_neg (by omega)]

set_option maxRecDepth 100000 in
theorem dLT (a b : Nat) (y z : Int) (w : World) (hu : BigK w a y) (hv : BigK w b z) : Calls Tryz.prog 137 #[.agg #[.pointer (some ⟨a, 0, none⟩)], .agg #[.pointer (some ⟨b, 0, none⟩)]] w (RetE (.bool (decide (y < z))) w) := by
  have e2 := (Ext.alloc' w (decBox a)).trans' (Ext.alloc' _ (decBox b))
  have H := Lib.hid (vCmp a b y z _ (hu.ext e2) (hv.ext e2)); clear hu hv e2
  rcases Int.lt_trichotomy y z with h | h | h
  · rw [cmpL h] at H
    have F := Lib.hid (show decide (y < z) = true by simp; omega); clear h
    go_enter Tryz.func137, Tryz.ntmps137
    go_wp2_with (go_at_call 180; refine H.out.mono ?_; rintro e w' ⟨rfl, n, rfl⟩)
    go_ret
    rw [F.out]; exact ⟨rfl, ((Ext.alloc' _ _).trans' (Ext.alloc' _ _)).trans' (Ext.drewN' _ _)⟩
  · rw [cmpE h] at H
    have F := Lib.hid (show decide (y < z) = false by simp; omega); clear h
    go_enter Tryz.func137, Tryz.ntmps137
    go_wp2_with (go_at_call 180; refine H.out.mono ?_; rintro e w' ⟨rfl, n, rfl⟩)
    go_ret
    rw [F.out]; exact ⟨rfl, ((Ext.alloc' _ _).trans' (Ext.alloc' _ _)).trans' (Ext.drewN' _ _)⟩
  · rw [cmpG h] at H
    have F := Lib.hid (show decide (y < z) = false by simp; omega); clear h
    go_enter Tryz.func137, Tryz.ntmps137
    go_wp2_with (go_at_call 180; refine H.out.mono ?_; rintro e w' ⟨rfl, n, rfl⟩)
    go_ret
    rw [F.out]; exact ⟨rfl, ((Ext.alloc' _ _).trans' (Ext.alloc' _ _)).trans' (Ext.drewN' _ _)⟩

set_option maxRecDepth 100000 in
theorem dGT (a b : Nat) (y z : Int) (w : World) (hu : BigK w a y) (hv : BigK w b z) : Calls Tryz.prog 245 #[.agg #[.pointer (some ⟨a, 0, none⟩)], .agg #[.pointer (some ⟨b, 0, none⟩)]] w (RetE (.bool (decide (z < y))) w) := by
  have e2 := (Ext.alloc' w (decBox a)).trans' (Ext.alloc' _ (decBox b))
  have H := Lib.hid (vCmp a b y z _ (hu.ext e2) (hv.ext e2)); clear hu hv e2
  rcases Int.lt_trichotomy y z with h | h | h
  · rw [cmpL h] at H
    have F := Lib.hid (show decide (z < y) = false by simp; omega); clear h
    go_enter Tryz.func245, Tryz.ntmps245
    go_wp2_with (go_at_call 180; refine H.out.mono ?_; rintro e w' ⟨rfl, n, rfl⟩)
    go_ret
    rw [F.out]; exact ⟨rfl, ((Ext.alloc' _ _).trans' (Ext.alloc' _ _)).trans' (Ext.drewN' _ _)⟩
  · rw [cmpE h] at H
    have F := Lib.hid (show decide (z < y) = false by simp; omega); clear h
    go_enter Tryz.func245, Tryz.ntmps245
    go_wp2_with (go_at_call 180; refine H.out.mono ?_; rintro e w' ⟨rfl, n, rfl⟩)
    go_ret
    rw [F.out]; exact ⟨rfl, ((Ext.alloc' _ _).trans' (Ext.alloc' _ _)).trans' (Ext.drewN' _ _)⟩
  · rw [cmpG h] at H
    have F := Lib.hid (show decide (z < y) = true by simp; omega); clear h
    go_enter Tryz.func245, Tryz.ntmps245
    go_wp2_with (go_at_call 180; refine H.out.mono ?_; rintro e w' ⟨rfl, n, rfl⟩)
    go_ret
    rw [F.out]; exact ⟨rfl, ((Ext.alloc' _ _).trans' (Ext.alloc' _ _)).trans' (Ext.drewN' _ _)⟩

set_option maxRecDepth 100000 in
theorem dEqual (a b : Nat) (y z : Int) (w : World) (hu : BigK w a y) (hv : BigK w b z) : Calls Tryz.prog 188 #[.agg #[.pointer (some ⟨a, 0, none⟩)], .agg #[.pointer (some ⟨b, 0, none⟩)]] w (RetE (.bool (decide (y = z))) w) := by
  have e2 := (Ext.alloc' w (decBox a)).trans' (Ext.alloc' _ (decBox b))
  have H := Lib.hid (vCmp a b y z _ (hu.ext e2) (hv.ext e2)); clear hu hv e2
  rcases Int.lt_trichotomy y z with h | h | h
  · rw [cmpL h] at H
    have F := Lib.hid (show decide (y = z) = false by simp; omega); clear h
    go_enter Tryz.func188, Tryz.ntmps188
    go_wp2_with (go_at_call 180; refine H.out.mono ?_; rintro e w' ⟨rfl, n, rfl⟩)
    go_ret
    rw [F.out]; exact ⟨rfl, ((Ext.alloc' _ _).trans' (Ext.alloc' _ _)).trans' (Ext.drewN' _ _)⟩
  · rw [cmpE h] at H
    have F := Lib.hid (show decide (y = z) = true by simp; omega); clear h
    go_enter Tryz.func188, Tryz.ntmps188
    go_wp2_with (go_at_call 180; refine H.out.mono ?_; rintro e w' ⟨rfl, n, rfl⟩)
    go_ret
    rw [F.out]; exact ⟨rfl, ((Ext.alloc' _ _).trans' (Ext.alloc' _ _)).trans' (Ext.drewN' _ _)⟩
  · rw [cmpG h] at H
    have F := Lib.hid (show decide (y = z) = false by simp; omega); clear h
    go_enter Tryz.func188, Tryz.ntmps188
    go_wp2_with (go_at_call 180; refine H.out.mono ?_; rintro e w' ⟨rfl, n, rfl⟩)
    go_ret
    rw [F.out]; exact ⟨rfl, ((Ext.alloc' _ _).trans' (Ext.alloc' _ _)).trans' (Ext.drewN' _ _)⟩

set_option maxRecDepth 100000 in
theorem dIsZero (b : Nat) (z : Int) (w : World) (h : BigK w b z) : Calls Tryz.prog 59 #[.agg #[.pointer (some ⟨b, 0, none⟩)]] w (RetE (.bool (sgn z == 0)) w) := by
  have H := Lib.hid h; clear h
  go_enter Tryz.func59, Tryz.ntmps59
  go_wp2_with (go_at_call 98; refine (intSign _ z _ (by exact (H.out.ext (Ext.alloc' _ _)).at_.big)).mono ?_; rintro e w' ⟨rfl, rfl⟩)
  go_ret
  exact ⟨rfl, Ext.alloc' _ _⟩

set_option maxRecDepth 100000 in
theorem dIsNegative (b : Nat) (z : Int) (w : World) (h : BigK w b z) : Calls Tryz.prog 201 #[.agg #[.pointer (some ⟨b, 0, none⟩)]] w (RetE (.bool (sgn z == -1)) w) := by
  have H := Lib.hid h; clear h
  go_enter Tryz.func201, Tryz.ntmps201
  go_wp2_with (go_at_call 98; refine (intSign _ z _ (by exact (H.out.ext (Ext.alloc' _ _)).at_.big)).mono ?_; rintro e w' ⟨rfl, rfl⟩)
  go_ret
  exact ⟨rfl, Ext.alloc' _ _⟩

set_option maxRecDepth 100000 in
theorem dIsPositive (b : Nat) (z : Int) (w : World) (h : BigK w b z) : Calls Tryz.prog 101 #[.agg #[.pointer (some ⟨b, 0, none⟩)]] w (RetE (.bool (sgn z == 1)) w) := by
  have H := Lib.hid h; clear h
  go_enter Tryz.func101, Tryz.ntmps101
  go_wp2_with (go_at_call 98; refine (intSign _ z _ (by exact (H.out.ext (Ext.alloc' _ _)).at_.big)).mono ?_; rintro e w' ⟨rfl, rfl⟩)
  go_ret
  exact ⟨rfl, Ext.alloc' _ _⟩

set_option maxRecDepth 100000 in
theorem dIsNil (b : Nat) (w : World) : Calls Tryz.prog 139 #[.agg #[.pointer (some ⟨b, 0, none⟩)]] w (RetE (.bool false) w) := by
  go_enter Tryz.func139, Tryz.ntmps139
  go_wp2
  go_ret
  exact ⟨rfl, Ext.alloc' _ _⟩
set_option maxRecDepth 100000 in
theorem dLower (w : World) (hT : Thr w) : Calls Tryz.prog 247 #[] w (RetDK (-UPL) w) := by
  have HR := Lib.hid (Blk.new w 84 [.pointer none])
  have E0 := Lib.hid (Ext.alloc' w (.cells #[.pointer none] 84))
  have HU := Lib.hid (dUpper _ (hT.ext E0.out))
  clear hT
  go_enter Tryz.func247, Tryz.ntmps247
  go_wp2_with (fail)
  go_at_call 246
  refine HU.out.mono ?_
  rintro e w1 ⟨p1, rfl, h1, x1⟩
  have HN := Lib.hid (dNegDec p1 UPL w1 h1.k smallU.2.1)
  have HE := Lib.hid (E0.out.trans' x1); have HR1 := Lib.hid (HR.out.ext x1)
  clear h1 x1
  go_wp2_with (fail)
  go_at_call 278
  refine HN.out.mono ?_
  rintro e w2 ⟨b, rfl, hf, hx⟩
  have hk := HR1.out.ext hx
  have c0 : w2.cell? ⟨w.heap.size, 0, none⟩ = some (.pointer none) := (hk.cell 0).trans rfl
  have fz := hk.frozen 0
  have HFF := Lib.hid (fun v => And.intro ((hf.old HE.out).set_ hk 0 v) (Only.ext (HE.out.trans' hx) ((Only.refl w.heap.size w2).set_ 0 v) (Nat.le_refl _)))
  clear hf hx hk
  go_wp2
  exact bodyPost_ret (v := .agg #[.pointer (some ⟨b, 0, none⟩)]) (by simp [results, Tryz.results247, go_sem, c0]) rfl ⟨_, rfl, HFF.out _⟩

/-- Decimals in the range. -/
def InR (z : Int) : Prop := -UPL ≤ z ∧ z ≤ UPL
set_option maxRecDepth 100000 in
theorem dInRange (b : Nat) (z : Int) (w : World) (h : BigK w b z) (hr : InR z) (hT : Thr w) : Calls Tryz.prog 200 #[.agg #[.pointer (some ⟨b, 0, none⟩)]] w (RetE (.bool true) w) := by
  have E0 := Lib.hid (Ext.alloc' w (decBox b))
  have c0 : (w.alloc (decBox b)).cell? ⟨w.heap.size, 0, none⟩ = some (.pointer (some ⟨b, 0, none⟩)) := cell_new _ _ _ _
  have HU := Lib.hid (dUpper (w.alloc (decBox b)).drew (hT.ext (Below.drew E0.out)))
  have ED := Lib.hid (show Ext w (w.alloc (decBox b)).drew from Below.drew E0.out)
  have HK := Lib.hid h; have HT := Lib.hid hT; have HR := Lib.hid hr
  have f1 : decide (UPL < z) = false := by have := hr.2; simp; omega
  have f2 : decide (z < -UPL) = false := by have := hr.1; simp; omega
  have F1 := Lib.hid f1; have F2 := Lib.hid f2
  clear h hT hr f1 f2
  go_enter Tryz.func200, Tryz.ntmps200
  go_wp2_with (fail)
  go_region_held3 (fun W => W.cell? ⟨w.heap.size, 0, none⟩ = some (.pointer (some ⟨b, 0, none⟩))) (first | exact c0 | exact c1 | exact c2 | exact c3 | exact c4) (first | (go_at_call 246; refine HU.out.mono ?_; rintro e w1 ⟨p1, rfl, h1, x1⟩; have c1 : w1.cell? ⟨w.heap.size, 0, none⟩ = some (.pointer (some ⟨b, 0, none⟩)) := x1.cell' c0; have HE1 := Lib.hid (ED.out.trans' x1); have HG := Lib.hid (dGT b p1 z UPL w1 (HK.out.ext HE1.out) h1.k); rw [F1.out] at HG; clear h1 x1) | (go_at_call 245; refine HG.out.mono ?_; rintro e w2 ⟨rfl, x2⟩; have c2 := x2.cell' c1; have HE2 := Lib.hid (HE1.out.trans' x2); have HL := Lib.hid (dLower w2 (HT.out.ext HE2.out)); clear x2) | (go_at_call 247; refine HL.out.mono ?_; rintro e w3 ⟨p3, rfl, h3, x3⟩; have c3 := x3.cell' c2; have HE3 := Lib.hid (HE2.out.trans' x3); have HLT := Lib.hid (dLT b p3 z (-UPL) w3 (HK.out.ext HE3.out) h3.k); rw [F2.out] at HLT; clear h3 x3) | (go_at_call 137; refine HLT.out.mono ?_; rintro e w4 ⟨rfl, x4⟩; have c4 := x4.cell' c3; have HE4 := Lib.hid (HE3.out.trans' x4); clear x4))
  go_wp2
  go_ret
  exact ⟨rfl, HE4.out⟩
set_option maxRecDepth 100000 in
theorem dAssert (b : Nat) (z : Int) (w : World) (h : BigK w b z) (hr : InR z) (hT : Thr w) : Calls Tryz.prog 165 #[.agg #[.pointer (some ⟨b, 0, none⟩)]] w (RetE (.tuple #[]) w) := by
  have E0 := Lib.hid (Ext.alloc' w (decBox b))
  have HI := Lib.hid (dInRange b z _ (h.ext E0.out) hr (hT.ext E0.out))
  clear h hr hT
  go_enter Tryz.func165, Tryz.ntmps165
  go_wp2_with (fail)
  go_at_call 200
  refine HI.out.mono ?_
  rintro e w1 ⟨rfl, x1⟩
  have X1 := Lib.hid (E0.out.trans' x1)
  clear x1
  go_wp2
  go_end0
  exact ⟨rfl, X1.out⟩

/-- The room of a big integer, chosen anew. -/
theorem BigV.renew {w : World} {b g c : Nat} {z : Int} (h : BigV w b g c z) {w3 : World} (e : Ext w w3) : ∃ g3, BigV w3 b g3 c z ∧ ((g3 = g ∧ g < w.heap.size) ∨ g3 = w3.heap.size) := by
  obtain ⟨hg, A, ws, neg, hb, hv, hr⟩ := h
  have hbl := hb.lt
  by_cases hA : A = none
  · obtain ⟨hc, hw⟩ := zero_of hv hA
    subst hA; subst hc; subst hw
    exact ⟨w3.heap.size, ⟨by have := e.size; omega, none, [], neg, hb.ext e, NatV.nil _ _, hr⟩, Or.inr rfl⟩
  · exact ⟨g, ⟨hg, A, ws, neg, hb.ext e, hv.ext e, hr⟩, Or.inl ⟨rfl, hv.lt_size hA⟩⟩
/-- A number that was there lies below. -/
theorem BigK.low {w0 w : World} {x : Nat} {z : Int} (h : BigK w0 x z) (e : Ext w0 w) : ∀ gy cy, BigV w x gy cy z → z = 0 ∨ gy < w0.heap.size := by
  obtain ⟨g, c, hg, A, ws, neg, hb, hv, hN, h0, hz⟩ := h
  rintro gy cy ⟨_, A2, ws2, neg2, hb2, hv2, hN2, _, hz2⟩
  have hb' := hb.ext e
  unfold Blk at hb' hb2
  rw [hb'] at hb2
  injection hb2 with hb2
  injection hb2 with hb2 _
  injection hb2 with hb2
  injection hb2 with h1 h2
  injection h2 with h2
  injection h2 with h2 h3 h4
  by_cases hw : ws2 = []
  · left; rw [hz2, hw]; cases neg2 <;> simp [bigVal, natOf]
  · right
    obtain ⟨hA2, _⟩ := hv2.cell hw
    have hA : A = some ⟨gy, 0, none⟩ := by rw [h2, hA2]
    have hw1 : ws ≠ [] := by intro e1; rw [e1] at h3; simp at h3; exact hw (List.eq_nil_of_length_eq_zero h3.symm)
    obtain ⟨hA3, _⟩ := hv.cell hw1
    rw [hA] at hA3
    injection hA3 with hA3
    injection hA3 with hA3
    rw [hA3]
    exact hv.lt_size (by rw [hA]; simp)
/-- The receiver of an operation in place, behind it. -/
def RetMut (w0 : World) (x : Nat) (z : Int) (e : Ending) (w' : World) : Prop := e = .returned (.agg #[.pointer (some ⟨x, 0, none⟩)]) ∧ BigF w0 w' x z ∧ Ext w0 w'

set_option maxRecDepth 100000 in
theorem dAddMut (w0 w : World) (x x2 : Nat) (y z : Int) (hE : Ext w0 w) (hx : BigF w0 w x y) (hy : BigK w0 x2 z) (ky : Small y) (kz : Small z) (hr : InR (y + z)) (hT : Thr w0) :
    Calls Tryz.prog 251 #[.agg #[.pointer (some ⟨x, 0, none⟩)], .agg #[.pointer (some ⟨x2, 0, none⟩)]] w (RetMut w0 x (y + z)) := by
  have e3 := ext3 w (decBox x) (decBox x2) (.cells #[.pointer none] 84)
  have hb0 := ((Blk.new w 84 [.pointer (some ⟨x, 0, none⟩)]).alloc (decBox x2)).alloc (.cells #[.pointer none] 84)
  have hbr := blk_new2 w (decBox x) (decBox x2) 84 [.pointer none]
  have hs3 : (((w.alloc (decBox x)).alloc (decBox x2)).alloc (.cells #[.pointer none] 84)).heap.size = w.heap.size + 3 := by simp
  obtain ⟨hxb, g, c, hxv, hgb⟩ := hx
  obtain ⟨g3, hv3, hg3⟩ := hxv.renew e3
  have hy2 := hy.lt
  have hxl := hxv.at_.lt
  rw [hs3] at hg3
  have hES := hE.size
  have HA := Lib.hid (pAdd x x2 g3 c y z _ hv3 (hy.ext (hE.trans' e3)) ky kz (fun gy cy h => (hy.low (hE.trans' e3) gy cy h).imp id (fun h => by rcases hg3 with ⟨rfl, _⟩ | rfl <;> omega)) (by rcases hg3 with ⟨rfl, _⟩ | rfl <;> omega))
  have HE := Lib.hid hE; have E3 := Lib.hid e3; have HB0 := Lib.hid hb0; have HBR := Lib.hid hbr; have HT := Lib.hid hT; have HR := Lib.hid hr
  have hgw : w0.heap.size ≤ g3 := by rcases hg3 with ⟨rfl, _⟩ | rfl <;> omega
  have hn0 : w.heap.size ≠ g3 := by rcases hg3 with ⟨rfl, _⟩ | rfl <;> omega
  have hn2 : w.heap.size + 2 ≠ g3 := by rcases hg3 with ⟨rfl, _⟩ | rfl <;> omega
  clear e3 hb0 hbr hxv hv3 hg3 hy hE hT hr hs3
  go_enter Tryz.func251, Tryz.ntmps251
  go_wp2_with (fail)
  go_at_call 88
  refine HA.out.mono ?_
  rintro e w4 ⟨rfl, g', c', hv, hg', ho⟩
  have hE4 : Ext w0 w4 := ho.ext (HE.out.trans' E3.out) hxb hgw
  have hk0 := ho.blk HB0.out (by omega) hn0
  have hk2 := ho.blk HBR.out (by omega) hn2
  have c0 : w4.cell? ⟨w.heap.size, 0, none⟩ = some (.pointer (some ⟨x, 0, none⟩)) := (hk0.cell 0).trans rfl
  have HS := Lib.hid (dAssert x (y + z) w4 hv.k HR.out (HT.out.ext hE4))
  have HV := Lib.hid (show BigF w0 w4 x (y + z) from ⟨hxb, g', c', hv, by have := (HE.out.trans' E3.out).size; rcases hg' with rfl | h <;> omega⟩)
  have HE4 := Lib.hid hE4; have HK2 := Lib.hid hk2; have HK0 := Lib.hid hk0
  clear hv hg' ho hE4 hk0 hk2
  go_wp2_with (fail)
  go_at_call 165
  refine HS.out.mono ?_
  rintro e w5 ⟨rfl, x5⟩
  have c1 := x5.cell' c0
  have hk := HK2.out.ext x5
  have c2 : w5.cell? ⟨w.heap.size + 2, 0, none⟩ = some (.pointer none) := (hk.cell 0).trans rfl
  have fz := hk.frozen 0
  have HF := Lib.hid (fun v => And.intro ((HV.out.ext x5).set_ hk 0 v) (Only.ext (HE4.out.trans' x5) ((Only.refl (w.heap.size + 2) w5).set_ 0 v) (by omega)))
  clear hk x5
  go_wp2
  exact bodyPost_ret (v := .agg #[.pointer (some ⟨x, 0, none⟩)]) (by simp [results, Tryz.results251, go_sem, c2]) rfl ⟨rfl, HF.out _⟩
set_option maxRecDepth 100000 in
theorem dImmutAdd (x x2 : Nat) (y z : Int) (w : World) (hx : BigK w x y) (hy : BigK w x2 z) (ky : Small y) (kz : Small z) (hr : InR (y + z)) (hT : Thr w) :
    Calls Tryz.prog 126 #[.agg #[.pointer (some ⟨x, 0, none⟩)], .func (.func 251) #[] #[], .agg #[.pointer (some ⟨x2, 0, none⟩)]] w (RetDK (y + z) w) := by
  have e3 := ext3 w (decBox x) (decBox x2) (.cells #[.pointer none] 84)
  have hbr := blk_new2 w (decBox x) (decBox x2) 84 [.pointer none]
  have hb1 := (blk_new1 w (decBox x) 84 [.pointer (some ⟨x2, 0, none⟩)]).alloc (.cells #[.pointer none] 84)
  have hb0 := ((Blk.new w 84 [.pointer (some ⟨x, 0, none⟩)]).alloc (decBox x2)).alloc (.cells #[.pointer none] 84)
  obtain ⟨W, hW⟩ : ∃ W, W = ((w.alloc (decBox x)).alloc (decBox x2)).alloc (.cells #[.pointer none] 84) := ⟨_, rfl⟩
  rw [← hW] at e3 hbr hb1 hb0
  have c0 : W.cell? ⟨w.heap.size, 0, none⟩ = some (.pointer (some ⟨x, 0, none⟩)) := (hb0.cell 0).trans rfl
  have c1 : W.cell? ⟨w.heap.size + 1, 0, none⟩ = some (.pointer (some ⟨x2, 0, none⟩)) := (hb1.cell 0).trans rfl
  rw [hW] at c0 c1
  have ED := Lib.hid (show Ext w W.drew from Below.drew e3)
  have HC := Lib.hid (dClone x y W.drew (hx.ext ED.out) ky)
  have HY := Lib.hid (hy.ext ED.out); have HT := Lib.hid (hT.ext ED.out); have HR := Lib.hid hr; have HBR := Lib.hid (show Blk W.drew (w.heap.size + 2) 84 [.pointer none] from hbr)
  subst hW
  clear e3 hbr hb1 hb0 hx hy hT hr
  go_enter Tryz.func126, Tryz.ntmps126
  go_wp2_with (fail)
  go_region_held3 (fun W => W.cell? ⟨w.heap.size, 0, none⟩ = some (.pointer (some ⟨x, 0, none⟩)) ∧ W.cell? ⟨w.heap.size + 1, 0, none⟩ = some (.pointer (some ⟨x2, 0, none⟩))) (first | exact ⟨c0, c1⟩ | exact c4 | exact c5 | exact c6 _) (first | (go_at_call 163; refine HC.out.mono ?_; rintro e w4 ⟨b, rfl, hf, x4⟩; have c4 : w4.cell? ⟨w.heap.size, 0, none⟩ = some (.pointer (some ⟨x, 0, none⟩)) ∧ w4.cell? ⟨w.heap.size + 1, 0, none⟩ = some (.pointer (some ⟨x2, 0, none⟩)) := ⟨x4.cell' c0, x4.cell' c1⟩; have HM := Lib.hid (dAddMut _ w4 b x2 y z x4 hf HY.out ky kz HR.out HT.out); clear hf x4) | (go_at_call 251; refine HM.out.mono ?_; rintro e w5 ⟨rfl, hf5, x5⟩; have c5 : w5.cell? ⟨w.heap.size, 0, none⟩ = some (.pointer (some ⟨x, 0, none⟩)) ∧ w5.cell? ⟨w.heap.size + 1, 0, none⟩ = some (.pointer (some ⟨x2, 0, none⟩)) := ⟨x5.cell' c0, x5.cell' c1⟩; have c6 : ∀ v, (w5.setCell ⟨w.heap.size + 2, 0, none⟩ v).cell? ⟨w.heap.size, 0, none⟩ = some (.pointer (some ⟨x, 0, none⟩)) ∧ (w5.setCell ⟨w.heap.size + 2, 0, none⟩ v).cell? ⟨w.heap.size + 1, 0, none⟩ = some (.pointer (some ⟨x2, 0, none⟩)) := fun v => ⟨set_far c5.1 (Nat.ne_of_lt (by simp)), set_far c5.2 (Nat.ne_of_lt (by simp))⟩; have HK := Lib.hid (HBR.out.ext x5); have c2 : w5.cell? ⟨w.heap.size + 2, 0, none⟩ = some (.pointer none) := (HK.out.cell 0).trans rfl; have fz := HK.out.frozen 0; have HF := Lib.hid (fun v => And.intro ((hf5.old ED.out).set_ HK.out 0 v) (Only.ext (ED.out.trans' x5) ((Only.refl (w.heap.size + 2) w5).set_ 0 v) (by omega))); clear x5 hf5))
  go_wp2
  exact bodyPost_ret (v := .agg #[.pointer (some ⟨b, 0, none⟩)]) (by simp [results, Tryz.results126, go_sem, c2]) rfl ⟨_, rfl, HF.out _⟩
set_option maxRecDepth 100000 in
theorem dAdd (x x2 : Nat) (y z : Int) (w : World) (hx : BigK w x y) (hy : BigK w x2 z) (ky : Small y) (kz : Small z) (hr : InR (y + z)) (hT : Thr w) :
    Calls Tryz.prog 207 #[.agg #[.pointer (some ⟨x, 0, none⟩)], .agg #[.pointer (some ⟨x2, 0, none⟩)]] w (RetDK (y + z) w) := by
  have e3 := ext3 w (decBox x) (decBox x2) (.cells #[.pointer none] 84)
  have hbr := blk_new2 w (decBox x) (decBox x2) 84 [.pointer none]
  have HC := Lib.hid (dImmutAdd x x2 y z _ (hx.ext e3) (hy.ext e3) ky kz hr (hT.ext e3))
  have E3 := Lib.hid e3; have HBR := Lib.hid hbr
  clear e3 hbr hx hy hT hr
  go_enter Tryz.func207, Tryz.ntmps207
  go_wp2_with (fail)
  go_at_call 126
  refine HC.out.mono ?_
  rintro e w5 ⟨b, rfl, hf5, x5⟩
  have hk := HBR.out.ext x5
  have c2 : w5.cell? ⟨w.heap.size + 2, 0, none⟩ = some (.pointer none) := (hk.cell 0).trans rfl
  have fz := hk.frozen 0
  have HF := Lib.hid (fun v => And.intro ((hf5.old E3.out).set_ hk 0 v) (Only.ext (E3.out.trans' x5) ((Only.refl (w.heap.size + 2) w5).set_ 0 v) (by omega)))
  clear hk x5 hf5
  go_wp2
  exact bodyPost_ret (v := .agg #[.pointer (some ⟨b, 0, none⟩)]) (by simp [results, Tryz.results207, go_sem, c2]) rfl ⟨_, rfl, HF.out _⟩

set_option maxRecDepth 100000 in
theorem dSubMut (w0 w : World) (x x2 : Nat) (y z : Int) (hE : Ext w0 w) (hx : BigF w0 w x y) (hy : BigK w0 x2 z) (ky : Small y) (kz : Small z) (hr : InR (y - z)) (hT : Thr w0) :
    Calls Tryz.prog 273 #[.agg #[.pointer (some ⟨x, 0, none⟩)], .agg #[.pointer (some ⟨x2, 0, none⟩)]] w (RetMut w0 x (y - z)) := by
  have e3 := ext3 w (decBox x) (decBox x2) (.cells #[.pointer none] 84)
  have hb0 := ((Blk.new w 84 [.pointer (some ⟨x, 0, none⟩)]).alloc (decBox x2)).alloc (.cells #[.pointer none] 84)
  have hbr := blk_new2 w (decBox x) (decBox x2) 84 [.pointer none]
  have hs3 : (((w.alloc (decBox x)).alloc (decBox x2)).alloc (.cells #[.pointer none] 84)).heap.size = w.heap.size + 3 := by simp
  obtain ⟨hxb, g, c, hxv, hgb⟩ := hx
  obtain ⟨g3, hv3, hg3⟩ := hxv.renew e3
  have hy2 := hy.lt
  have hxl := hxv.at_.lt
  rw [hs3] at hg3
  have hES := hE.size
  have HA := Lib.hid (pSub x x2 g3 c y z _ hv3 (hy.ext (hE.trans' e3)) ky kz (fun gy cy h => (hy.low (hE.trans' e3) gy cy h).imp id (fun h => by rcases hg3 with ⟨rfl, _⟩ | rfl <;> omega)) (by rcases hg3 with ⟨rfl, _⟩ | rfl <;> omega))
  have HE := Lib.hid hE; have E3 := Lib.hid e3; have HB0 := Lib.hid hb0; have HBR := Lib.hid hbr; have HT := Lib.hid hT; have HR := Lib.hid hr
  have hgw : w0.heap.size ≤ g3 := by rcases hg3 with ⟨rfl, _⟩ | rfl <;> omega
  have hn0 : w.heap.size ≠ g3 := by rcases hg3 with ⟨rfl, _⟩ | rfl <;> omega
  have hn2 : w.heap.size + 2 ≠ g3 := by rcases hg3 with ⟨rfl, _⟩ | rfl <;> omega
  clear e3 hb0 hbr hxv hv3 hg3 hy hE hT hr hs3
  go_enter Tryz.func273, Tryz.ntmps273
  go_wp2_with (fail)
  go_at_call 255
  refine HA.out.mono ?_
  rintro e w4 ⟨rfl, g', c', hv, hg', ho⟩
  have hE4 : Ext w0 w4 := ho.ext (HE.out.trans' E3.out) hxb hgw
  have hk0 := ho.blk HB0.out (by omega) hn0
  have hk2 := ho.blk HBR.out (by omega) hn2
  have c0 : w4.cell? ⟨w.heap.size, 0, none⟩ = some (.pointer (some ⟨x, 0, none⟩)) := (hk0.cell 0).trans rfl
  have HS := Lib.hid (dAssert x (y - z) w4 hv.k HR.out (HT.out.ext hE4))
  have HV := Lib.hid (show BigF w0 w4 x (y - z) from ⟨hxb, g', c', hv, by have := (HE.out.trans' E3.out).size; rcases hg' with rfl | h <;> omega⟩)
  have HE4 := Lib.hid hE4; have HK2 := Lib.hid hk2; have HK0 := Lib.hid hk0
  clear hv hg' ho hE4 hk0 hk2
  go_wp2_with (fail)
  go_at_call 165
  refine HS.out.mono ?_
  rintro e w5 ⟨rfl, x5⟩
  have c1 := x5.cell' c0
  have hk := HK2.out.ext x5
  have c2 : w5.cell? ⟨w.heap.size + 2, 0, none⟩ = some (.pointer none) := (hk.cell 0).trans rfl
  have fz := hk.frozen 0
  have HF := Lib.hid (fun v => And.intro ((HV.out.ext x5).set_ hk 0 v) (Only.ext (HE4.out.trans' x5) ((Only.refl (w.heap.size + 2) w5).set_ 0 v) (by omega)))
  clear hk x5
  go_wp2
  exact bodyPost_ret (v := .agg #[.pointer (some ⟨x, 0, none⟩)]) (by simp [results, Tryz.results273, go_sem, c2]) rfl ⟨rfl, HF.out _⟩
set_option maxRecDepth 100000 in
theorem dImmutSub (x x2 : Nat) (y z : Int) (w : World) (hx : BigK w x y) (hy : BigK w x2 z) (ky : Small y) (kz : Small z) (hr : InR (y - z)) (hT : Thr w) :
    Calls Tryz.prog 126 #[.agg #[.pointer (some ⟨x, 0, none⟩)], .func (.func 273) #[] #[], .agg #[.pointer (some ⟨x2, 0, none⟩)]] w (RetDK (y - z) w) := by
  have e3 := ext3 w (decBox x) (decBox x2) (.cells #[.pointer none] 84)
  have hbr := blk_new2 w (decBox x) (decBox x2) 84 [.pointer none]
  have hb1 := (blk_new1 w (decBox x) 84 [.pointer (some ⟨x2, 0, none⟩)]).alloc (.cells #[.pointer none] 84)
  have hb0 := ((Blk.new w 84 [.pointer (some ⟨x, 0, none⟩)]).alloc (decBox x2)).alloc (.cells #[.pointer none] 84)
  obtain ⟨W, hW⟩ : ∃ W, W = ((w.alloc (decBox x)).alloc (decBox x2)).alloc (.cells #[.pointer none] 84) := ⟨_, rfl⟩
  rw [← hW] at e3 hbr hb1 hb0
  have c0 : W.cell? ⟨w.heap.size, 0, none⟩ = some (.pointer (some ⟨x, 0, none⟩)) := (hb0.cell 0).trans rfl
  have c1 : W.cell? ⟨w.heap.size + 1, 0, none⟩ = some (.pointer (some ⟨x2, 0, none⟩)) := (hb1.cell 0).trans rfl
  rw [hW] at c0 c1
  have ED := Lib.hid (show Ext w W.drew from Below.drew e3)
  have HC := Lib.hid (dClone x y W.drew (hx.ext ED.out) ky)
  have HY := Lib.hid (hy.ext ED.out); have HT := Lib.hid (hT.ext ED.out); have HR := Lib.hid hr; have HBR := Lib.hid (show Blk W.drew (w.heap.size + 2) 84 [.pointer none] from hbr)
  subst hW
  clear e3 hbr hb1 hb0 hx hy hT hr
  go_enter Tryz.func126, Tryz.ntmps126
  go_wp2_with (fail)
  go_region_held3 (fun W => W.cell? ⟨w.heap.size, 0, none⟩ = some (.pointer (some ⟨x, 0, none⟩)) ∧ W.cell? ⟨w.heap.size + 1, 0, none⟩ = some (.pointer (some ⟨x2, 0, none⟩))) (first | exact ⟨c0, c1⟩ | exact c4 | exact c5 | exact c6 _) (first | (go_at_call 163; refine HC.out.mono ?_; rintro e w4 ⟨b, rfl, hf, x4⟩; have c4 : w4.cell? ⟨w.heap.size, 0, none⟩ = some (.pointer (some ⟨x, 0, none⟩)) ∧ w4.cell? ⟨w.heap.size + 1, 0, none⟩ = some (.pointer (some ⟨x2, 0, none⟩)) := ⟨x4.cell' c0, x4.cell' c1⟩; have HM := Lib.hid (dSubMut _ w4 b x2 y z x4 hf HY.out ky kz HR.out HT.out); clear hf x4) | (go_at_call 273; refine HM.out.mono ?_; rintro e w5 ⟨rfl, hf5, x5⟩; have c5 : w5.cell? ⟨w.heap.size, 0, none⟩ = some (.pointer (some ⟨x, 0, none⟩)) ∧ w5.cell? ⟨w.heap.size + 1, 0, none⟩ = some (.pointer (some ⟨x2, 0, none⟩)) := ⟨x5.cell' c0, x5.cell' c1⟩; have c6 : ∀ v, (w5.setCell ⟨w.heap.size + 2, 0, none⟩ v).cell? ⟨w.heap.size, 0, none⟩ = some (.pointer (some ⟨x, 0, none⟩)) ∧ (w5.setCell ⟨w.heap.size + 2, 0, none⟩ v).cell? ⟨w.heap.size + 1, 0, none⟩ = some (.pointer (some ⟨x2, 0, none⟩)) := fun v => ⟨set_far c5.1 (Nat.ne_of_lt (by simp)), set_far c5.2 (Nat.ne_of_lt (by simp))⟩; have HK := Lib.hid (HBR.out.ext x5); have c2 : w5.cell? ⟨w.heap.size + 2, 0, none⟩ = some (.pointer none) := (HK.out.cell 0).trans rfl; have fz := HK.out.frozen 0; have HF := Lib.hid (fun v => And.intro ((hf5.old ED.out).set_ HK.out 0 v) (Only.ext (ED.out.trans' x5) ((Only.refl (w.heap.size + 2) w5).set_ 0 v) (by omega))); clear x5 hf5))
  go_wp2
  exact bodyPost_ret (v := .agg #[.pointer (some ⟨b, 0, none⟩)]) (by simp [results, Tryz.results126, go_sem, c2]) rfl ⟨_, rfl, HF.out _⟩
set_option maxRecDepth 100000 in
theorem dSub (x x2 : Nat) (y z : Int) (w : World) (hx : BigK w x y) (hy : BigK w x2 z) (ky : Small y) (kz : Small z) (hr : InR (y - z)) (hT : Thr w) :
    Calls Tryz.prog 237 #[.agg #[.pointer (some ⟨x, 0, none⟩)], .agg #[.pointer (some ⟨x2, 0, none⟩)]] w (RetDK (y - z) w) := by
  have e3 := ext3 w (decBox x) (decBox x2) (.cells #[.pointer none] 84)
  have hbr := blk_new2 w (decBox x) (decBox x2) 84 [.pointer none]
  have HC := Lib.hid (dImmutSub x x2 y z _ (hx.ext e3) (hy.ext e3) ky kz hr (hT.ext e3))
  have E3 := Lib.hid e3; have HBR := Lib.hid hbr
  clear e3 hbr hx hy hT hr
  go_enter Tryz.func237, Tryz.ntmps237
  go_wp2_with (fail)
  go_at_call 126
  refine HC.out.mono ?_
  rintro e w5 ⟨b, rfl, hf5, x5⟩
  have hk := HBR.out.ext x5
  have c2 : w5.cell? ⟨w.heap.size + 2, 0, none⟩ = some (.pointer none) := (hk.cell 0).trans rfl
  have fz := hk.frozen 0
  have HF := Lib.hid (fun v => And.intro ((hf5.old E3.out).set_ hk 0 v) (Only.ext (E3.out.trans' x5) ((Only.refl (w.heap.size + 2) w5).set_ 0 v) (by omega)))
  clear hk x5 hf5
  go_wp2
  exact bodyPost_ret (v := .agg #[.pointer (some ⟨b, 0, none⟩)]) (by simp [results, Tryz.results237, go_sem, c2]) rfl ⟨_, rfl, HF.out _⟩
end Go.Proofs.YtcoffndnfaemoaaGreatDoor

namespace Go.Proofs.YtcoffndnfaemoaaGreatDoor
open Go Go.RowKit

set_option maxRecDepth 100000 in
theorem iUnit (w : World) : Calls Tryz.prog 87 #[] w (RetPK T18 w) := by
  have h := fun W => Lib.hid (kNew 1000000000000000000 W (by omega) (by omega))
  go_enter Tryz.func87, Tryz.ntmps87
  go_wp2_with (go_at_call 86; refine (h _).out.mono ?_; rintro e w1 ⟨p1, rfl, hr⟩; have HR := Lib.hid hr; clear hr)
  go_ret
  exact ⟨_, rfl, HR.out⟩
theorem small_i (x : Int) (h0 : -9223372036854775807 ≤ x) (h1 : x ≤ 9223372036854775807) : Small x := by
  have h : x.natAbs < B64 := by unfold B64; omega
  have h2 : B64 ^ 1 ≤ B64 ^ 30 := Nat.pow_le_pow_right B64_pos (by omega)
  rw [Nat.pow_one] at h2
  unfold Small; omega
theorem small_m (x : Int) (h : x.natAbs < B64 * B64) : Small x := by
  have h2 : B64 ^ 2 ≤ B64 ^ 30 := Nat.pow_le_pow_right B64_pos (by omega)
  rw [Nat.pow_succ, Nat.pow_one] at h2
  unfold Small; omega
/-- The decimals of plain data: their bounds. -/
def DecB (whole frac : Int) : Prop := (-4000000000000 ≤ whole ∧ whole ≤ 4000000000000) ∧ (-1000000000000000000 < frac ∧ frac < 1000000000000000000)
def decV (whole frac : Int) : Int := whole * T18 + frac
theorem decB_small {whole frac : Int} (h : DecB whole frac) : Small (whole * T18) ∧ Small frac ∧ Small (decV whole frac) := by
  obtain ⟨⟨h1, h2⟩, h3, h4⟩ := h
  refine ⟨small_m _ ?_, small_m _ ?_, small_m _ ?_⟩ <;> (try unfold decV) <;> (try unfold T18) <;> unfold B64 <;> omega
theorem BigV.uniq {w : World} {x g1 c1 g2 c2 : Nat} {z : Int} (h : BigV w x g1 c1 z) (k : BigV w x g2 c2 z) : z = 0 ∨ (g2 = g1 ∧ g1 < w.heap.size) := by
  obtain ⟨_, A1, ws1, n1, hb1, hv1, hN1, _, hz1⟩ := h
  obtain ⟨_, A2, ws2, n2, hb2, hv2, hN2, _, hz2⟩ := k
  unfold Blk at hb1 hb2
  rw [hb1] at hb2
  injection hb2 with hb2
  injection hb2 with hb2 _
  injection hb2 with hb2
  injection hb2 with _ h2
  injection h2 with h2
  injection h2 with h2 h3 h4
  by_cases hw1 : ws1 = []
  · left; rw [hz1, hw1]; cases n1 <;> simp [bigVal, natOf]
  · by_cases hw2 : ws2 = []
    · left; rw [hz2, hw2]; cases n2 <;> simp [bigVal, natOf]
    · right
      obtain ⟨hA1, _⟩ := hv1.cell hw1
      obtain ⟨hA2, _⟩ := hv2.cell hw2
      have hne : A1 ≠ none := by rw [hA1]; simp
      rw [hA1, hA2] at h2
      injection h2 with h2
      injection h2 with h2
      exact ⟨h2.symm, hv1.lt_size hne⟩
/-- In place, by a newer number. -/
theorem place_new {w3 w4 : World} {b x2 g c : Nat} {y z : Int} (hv : BigV w3 b g c y) (e : Ext w3 w4) (hz : BigF w3 w4 x2 z) :
    ∃ g4, BigV w4 b g4 c y ∧ ((g4 = g ∧ ∃ cs, Blk w3 g 167 cs) ∨ g4 = w4.heap.size) ∧ (∀ gy cy, BigV w4 x2 gy cy z → z = 0 ∨ gy ≠ g4) ∧ x2 ≠ g4 := by
  obtain ⟨hx2, gf, cf, hvf, hgf⟩ := hz
  have hxl := hvf.at_.lt
  obtain ⟨hg, A, ws, neg, hb, hn, hr⟩ := hv
  have hbl := hb.lt
  have hes := e.size
  by_cases hA : A = none
  · obtain ⟨hc, hw⟩ := zero_of hn hA
    subst hA; subst hc; subst hw
    refine ⟨w4.heap.size, ⟨by omega, none, [], neg, hb.ext e, NatV.nil _ _, hr⟩, Or.inr rfl, fun gy cy hy => ?_, by omega⟩
    exact (hvf.uniq hy).imp id (fun h => by omega)
  · have hgl := hn.lt_size hA
    refine ⟨g, ⟨hg, A, ws, neg, hb.ext e, hn.ext e, hr⟩, Or.inl ⟨rfl, ?_⟩, fun gy cy hy => ?_, by omega⟩
    · rcases hn with ⟨h, _⟩ | ⟨_, _, _, full, hfull, _⟩
      · exact absurd h hA
      · exact ⟨_, hfull.1⟩
    · exact (hvf.uniq hy).imp id (fun h => by omega)

set_option maxRecDepth 100000 in
set_option maxHeartbeats 400000 in
theorem iDec (whole frac : Int) (w : World) (h : DecB whole frac) (hT : Thr w) : Calls Tryz.prog 49 #[.agg #[.int .i64 whole, .int .i64 frac]] w (RetDK (decV whole frac) w) := by
  obtain ⟨s1, s2, s3⟩ := decB_small h
  obtain ⟨⟨b1, b2⟩, b3, b4⟩ := h
  have HT := Lib.hid hT; clear hT
  have hB0 := ((Blk.new w 24 [.int .i64 whole, .int .i64 frac]).alloc (.cells #[.pointer none] 84)).alloc (.cells #[.bool false, .slice none 0 0] 126)
  have hBR := (blk_new1 w (.cells #[.int .i64 whole, .int .i64 frac] 24) 84 [.pointer none]).alloc (.cells #[.bool false, .slice none 0 0] 126)
  have hBB := blk_new2 w (.cells #[.int .i64 whole, .int .i64 frac] 24) (.cells #[.pointer none] 84) 126 [.bool false, .slice none 0 0]
  have E3 := Lib.hid (ext3 w (.cells #[.int .i64 whole, .int .i64 frac] 24) (.cells #[.pointer none] 84) (.cells #[.bool false, .slice none 0 0] 126))
  have HB0 := Lib.hid hB0; have HBR := Lib.hid hBR; have HBB := Lib.hid hBB
  clear hB0 hBR hBB
  go_enter Tryz.func49, Tryz.ntmps49
  go_wp2_with (fail)
  go_at_call 86
  refine (kNew whole _ (by omega) (by omega)).mono ?_
  rintro e w1 ⟨p1, rfl, h1, x1⟩
  have X1 := Lib.hid x1; have H1 := Lib.hid h1; clear x1 h1
  go_wp2_with (fail)
  go_at_call 87
  refine (iUnit w1).mono ?_
  rintro e w2 ⟨p2, rfl, h2, x2⟩
  have hE := X1.out.trans' x2
  have n12 : p1 ≠ p2 := by have a := H1.out.k.lt; have b := h2.1; omega
  have HM := Lib.hid (nMul (w.heap.size + 2) p1 p2 whole T18 w2 (HBB.out.ext hE) (H1.out.k.ext x2) h2.k (small_i whole (by omega) (by omega)) smallU.2.2.2.1 n12 (HT.out.ext (E3.out.trans' hE)))
  have HE2 := Lib.hid (E3.out.trans' hE); have HB2 := Lib.hid (HB0.out.ext hE); have HR2 := Lib.hid (HBR.out.ext hE)
  clear hE h2 x2 n12
  go_wp2_with (fail)
  go_at_call 85
  refine HM.out.mono ?_
  rintro e w3 h3
  obtain ⟨rfl, hf3, ho3⟩ := h3.bf HE2.out (by omega)
  have HE3 := Lib.hid (Only.ext HE2.out ho3 (by omega))
  have hb0 := ho3.block' HB2.out (by omega)
  have c1 : w3.cell? ⟨w.heap.size, 1, none⟩ = some (.int .i64 frac) := (hb0.cell 1).trans rfl
  have HR3 := Lib.hid (ho3.block' HR2.out (by omega))
  have HF3 := Lib.hid hf3
  clear h3 hf3 ho3 hb0
  go_wp2_with (fail)
  go_at_call 86
  refine (kNew frac w3 (by omega) (by omega)).mono ?_
  rintro e w4 ⟨p4, rfl, h4, x4⟩
  obtain ⟨k1, g, c, hv, k2⟩ := HF3.out
  obtain ⟨g4, hv4, hg4, hsep, hx4⟩ := place_new hv x4 h4
  have hs3 := HE3.out.size
  have hxs := x4.size
  have hgw : w.heap.size ≤ g4 := by rcases hg4 with ⟨rfl, _⟩ | rfl <;> omega
  have hr4 : w.heap.size + 1 ≠ g4 := by
    rcases hg4 with ⟨rfl, cs, hcs⟩ | rfl
    · exact HR3.out.ne hcs (by decide)
    · have := HR3.out.lt; omega
  have HA := Lib.hid (pAdd (w.heap.size + 2) p4 g4 c (whole * T18) frac w4 hv4 h4.k s1 s2 hsep hx4)
  have HE4 := Lib.hid (HE3.out.trans' x4); have HR4 := Lib.hid (HR3.out.ext x4)
  clear k1 hv k2 hv4 hg4 hsep hx4 h4 x4 hs3 hxs
  go_wp2_with (fail)
  go_at_call 88
  refine HA.out.mono ?_
  rintro e w5 ⟨rfl, g', c', hv5, hg5, ho5⟩
  have HE5 := Lib.hid (ho5.ext HE4.out (by omega) hgw)
  have HR5 := Lib.hid (ho5.blk HR4.out (by omega) hr4)
  have HD := Lib.hid (dFromBig (w.heap.size + 2) (decV whole frac) w5 hv5.k s3 (HT.out.ext HE5.out))
  clear hv5 hg5 ho5
  go_wp2_with (fail)
  go_at_call 89
  refine HD.out.mono ?_
  rintro e w6 ⟨b, rfl, hf6, x6⟩
  have hk := HR5.out.ext x6
  have c2 : w6.cell? ⟨w.heap.size + 1, 0, none⟩ = some (.pointer none) := (hk.cell 0).trans rfl
  have fz := hk.frozen 0
  have HF := Lib.hid (fun v => And.intro ((hf6.old HE5.out).set_ hk 0 v) (Only.ext (HE5.out.trans' x6) ((Only.refl (w.heap.size + 1) w6).set_ 0 v) (by omega)))
  clear hk x6 hf6
  go_wp2
  exact bodyPost_ret (v := .agg #[.pointer (some ⟨b, 0, none⟩)]) (by simp [results, Tryz.results49, go_sem, c2]) rfl ⟨_, rfl, HF.out _⟩
end Go.Proofs.YtcoffndnfaemoaaGreatDoor

namespace Go.Proofs.YtcoffndnfaemoaaGreatDoor
open Go Go.RowKit

/-- A decimal coin handed back. -/
abbrev dcV (s : ByteArray) (b : Nat) : Value := .agg #[.string s, .pointer (some ⟨b, 0, none⟩)]
abbrev dcBox (s : ByteArray) (b : Nat) : Obj := .cells #[.string s, .pointer (some ⟨b, 0, none⟩)] 118
abbrev dpV (s : ByteArray) (x y : Int) : Value := .agg #[.string s, .int .i64 x, .int .i64 y]
abbrev dpBox (s : ByteArray) (x y : Int) : Obj := .cells #[.string s, .int .i64 x, .int .i64 y] 48
def RetDC (s : ByteArray) (z : Int) (w : World) (e : Ending) (w' : World) : Prop := ∃ b, e = .returned (dcV s b) ∧ BigF w w' b z ∧ Ext w w'
theorem dtwo_done {w w1 : World} {g b : Nat} {z : Int} {t : TypeId} {cs : List Value} (hE : Ext w w1) (hg : w.heap.size ≤ g) (hk : Blk w1 g t cs) (hB : BigF w w1 b z) (u v : Value) (h1 : 167 ≠ t := by decide) (h2 : 126 ≠ t := by decide) :
    BigF w ((w1.setCell ⟨g, 0, none⟩ u).setCell ⟨g, 1, none⟩ v) b z ∧ Ext w ((w1.setCell ⟨g, 0, none⟩ u).setCell ⟨g, 1, none⟩ v) :=
  ⟨(hB.set_ hk 0 u h1 h2).set_ (hk.set_ 0 u) 1 v h1 h2, Only.ext hE (((Only.refl _ _).set_ 0 _).set_ 1 _) hg⟩

set_option maxRecDepth 100000 in
theorem iDecCoin (s : ByteArray) (x y : Int) (w : World) (h : DecB x y) (hT : Thr w) : Calls Tryz.prog 82 #[dpV s x y] w (RetDC s (decV x y) w) := by
  have k1 := Lib.hid ((blk_new0 w 48 [.string s, .int .i64 x, .int .i64 y]).alloc (.cells #[.string ByteArray.empty, .pointer none] 118))
  have k2 := Lib.hid (blk_new1 w (dpBox s x y) 118 [.string ByteArray.empty, .pointer none])
  have E2 := Lib.hid (ext2 w (dpBox s x y) (.cells #[.string ByteArray.empty, .pointer none] 118))
  have HT := Lib.hid (show Thr ((w.alloc (dpBox s x y)).alloc (.cells #[.string ByteArray.empty, .pointer none] 118)) from hT.ext E2.out)
  clear hT
  go_enter Tryz.func82, Tryz.ntmps82
  go_wp2
  go_region_law (first | (go_simp; go_at_call 49; refine (iDec x y _ h (by exact HT.out)).mono ?_; rintro e w1 ⟨b, rfl, hB, hE⟩; have hE' := Ext.undrew hE; have HB := Lib.hid (show BigF w w1 b (decV x y) from hB.old (Below.drew E2.out)); have HE := Lib.hid hE'; have s0 : w1.cell? ⟨w.heap.size, 0, none⟩ = some (.string s) := (((k1.out).ext hE').cell 0).trans rfl; have d0 : w1.cell? ⟨w.heap.size + 1, 0, none⟩ = some (.string ByteArray.empty) := (((k2.out).ext hE').cell 0).trans rfl; have d1 : w1.cell? ⟨w.heap.size + 1, 1, none⟩ = some (.pointer none) := (((k2.out).ext hE').cell 1).trans rfl; have f0 := ((k2.out).ext hE').frozen 0; have f1 := ((k2.out).ext hE').frozen 1; clear hE hE' hB))
  all_goals go_wp2
  all_goals exact bodyPost_ret (v := dcV s b) (by simp [results, Tryz.results82, go_sem, d0, d1]) rfl ⟨b, rfl, dtwo_done (E2.out.trans' HE.out) (by omega) (k2.out.ext HE.out) HB.out _ _⟩

/-- Whether decimal coins are alike. -/
def dcEq (s t : ByteArray) (y z : Int) : Bool := (s.toList == t.toList) && decide (y = z)
set_option maxRecDepth 100000 in
theorem tdIsZero (s : ByteArray) (b : Nat) (z : Int) (w : World) (h : BigK w b z) : Calls Tryz.prog 84 #[dcV s b] w (RetE (.bool (sgn z == 0)) w) := by
  have H := Lib.hid (dIsZero b z _ (h.ext (ext1 w (dcBox s b)))); clear h
  generalize (sgn z == 0) = r at H ⊢
  go_enter Tryz.func84, Tryz.ntmps84
  go_wp2_with (go_at_call 59; refine H.out.mono ?_; rintro e w' ⟨rfl, hE⟩; have HE := Lib.hid hE; clear hE)
  go_ret
  exact ⟨rfl, (ext1 _ _).trans' HE.out⟩
set_option maxRecDepth 100000 in
theorem tdIsNegative (s : ByteArray) (b : Nat) (z : Int) (w : World) (h : BigK w b z) : Calls Tryz.prog 192 #[dcV s b] w (RetE (.bool (sgn z == -1)) w) := by
  have H := Lib.hid (dIsNegative b z _ (h.ext (ext1 w (dcBox s b)))); clear h
  generalize (sgn z == -1) = r at H ⊢
  go_enter Tryz.func192, Tryz.ntmps192
  go_wp2_with (go_at_call 201; refine H.out.mono ?_; rintro e w' ⟨rfl, hE⟩; have HE := Lib.hid hE; clear hE)
  go_ret
  exact ⟨rfl, (ext1 _ _).trans' HE.out⟩
set_option maxRecDepth 100000 in
theorem tdAdd (s : ByteArray) (a b : Nat) (y z : Int) (w : World) (hu : BigK w a y) (hv : BigK w b z) (ky : Small y) (kz : Small z) (hr : InR (y + z)) (hT : Thr w) :
    Calls Tryz.prog 162 #[dcV s a, dcV s b] w (RetDC s (y + z) w) := by
  have k1 := Lib.hid (((blk_new0 w 118 [.string s, .pointer (some ⟨a, 0, none⟩)]).alloc (dcBox s b)).alloc (.cells #[.string ByteArray.empty, .pointer none] 118))
  have k2 := Lib.hid (blk_new2 w (dcBox s a) (dcBox s b) 118 [.string ByteArray.empty, .pointer none])
  have E3 := Lib.hid (ext3 w (dcBox s a) (dcBox s b) (.cells #[.string ByteArray.empty, .pointer none] 118))
  have HA := Lib.hid (dAdd a b y z _ (hu.ext (Below.drew E3.out)) (hv.ext (Below.drew E3.out)) ky kz hr (hT.ext (Below.drew E3.out)))
  clear hu hv hT
  go_enter Tryz.func162, Tryz.ntmps162
  go_wp2
  go_region_law (first | (go_simp; go_at_call 207; refine HA.out.mono ?_; rintro e w1 ⟨r, rfl, hB, hE⟩; have hE' := Ext.undrew hE; have HB := Lib.hid (show BigF w w1 r (y + z) from hB.old (Below.drew E3.out)); have HE := Lib.hid hE'; have s0 : w1.cell? ⟨w.heap.size, 0, none⟩ = some (.string s) := (((k1.out).ext hE').cell 0).trans rfl; have d0 : w1.cell? ⟨w.heap.size + 2, 0, none⟩ = some (.string ByteArray.empty) := (((k2.out).ext hE').cell 0).trans rfl; have d1 : w1.cell? ⟨w.heap.size + 2, 1, none⟩ = some (.pointer none) := (((k2.out).ext hE').cell 1).trans rfl; have f0 := ((k2.out).ext hE').frozen 0; have f1 := ((k2.out).ext hE').frozen 1; clear hE hE' hB))
  all_goals go_wp2
  all_goals exact bodyPost_ret (v := dcV s r) (by simp [results, Tryz.results162, go_sem, d0, d1]) rfl ⟨r, rfl, dtwo_done (E3.out.trans' HE.out) (by omega) (k2.out.ext HE.out) HB.out _ _⟩
end Go.Proofs.YtcoffndnfaemoaaGreatDoor
