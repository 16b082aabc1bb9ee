/-
  The walk of the law FnCoinsCompare: it returns true.
-/
import Derived.Test.YtagfbefgcijegaaGreatDoorCmpAll
import Derived.Test.YtagfbefgcijegaaGreatDoorEqual2
namespace Go.Proofs.YtagfbefgcijegaaGreatDoor
open Go Go.RowKit

theorem drew1 (W : World) : Ext W W.drew := Ext.drewN' W 1

set_option maxRecDepth 100000 in
set_option maxHeartbeats 16000000 in
theorem lawCompare (A0 : Option Addr) (n0 c0 : Nat) (l0 : List (ByteArray × Int)) (A1 : Option Addr) (n1 c1 : Nat) (l1 : List (ByteArray × Int)) (w : World) (hl0 : l0.length = n0) (hn0 : n0 ≤ 9223372036854775807) (h0 : PlainAt w A0 l0) (hl1 : l1.length = n1) (hn1 : n1 ≤ 9223372036854775807) (h1 : PlainAt w A1 l1) :
    Calls Tryz.prog 15 #[.slice A0 n0 c0, .slice A1 n1 c1] w (RetE (.bool true) w) := by
  obtain ⟨W, hW⟩ : ∃ W, W = (w.alloc (.cells #[.slice A0 n0 c0] 22)).alloc (.cells #[.slice A1 n1 c1] 22) := ⟨_, rfl⟩
  have K0 := Lib.hid (show Blk W w.heap.size 22 [.slice A0 n0 c0] by rw [hW]; exact (blk_new0 w 22 [.slice A0 n0 c0]).alloc _)
  have K1 := Lib.hid (show Blk W (w.heap.size + 1) 22 [.slice A1 n1 c1] by rw [hW]; exact blk_new1 w _ 22 [.slice A1 n1 c1])
  have EW := Lib.hid (show Ext w W by rw [hW]; exact ext2 _ _ _)
  have HL2 := Lib.hid (show L2 w.heap.size A0 n0 c0 A1 n1 c1 W from ⟨(K0.out.cell 0).trans rfl, (K1.out.cell 0).trans rfl⟩)
  have HL0 := Lib.hid hl0; have HN0 := Lib.hid hn0; have HP0 := Lib.hid (h0.ext EW.out)
  have HL1 := Lib.hid hl1; have HN1 := Lib.hid hn1; have HP1 := Lib.hid (h1.ext EW.out)
  have HWW := Lib.hid hW
  have HE0 := Lib.hid (Ext.refl W)
  have hmf : ∀ (fn : Fn) (first cap : Array Value) (V : World), (Instr.makeFunc fn first cap).run Tryz.prog V = .ok (.func fn first cap) V := fun _ _ _ _ => rfl
  clear hl0 hn0 h0 hl1 hn1 h1 hW
  go_enter Tryz.func15, Tryz.ntmps15
  go_wp2_with (fail)
  go_at_call 19
  rw [← HWW.out]
  refine (zFits2 A0 n0 c0 l0 _ HL0.out HN0.out (HP0.out.ext HE0.out)).mono ?_
  rintro e w1 ⟨r, rfl, hf, hE⟩
  have HE1 := Lib.hid (HE0.out.trans' hE)
  clear hE
  cases r
  · go_wp2
    go_ret
    exact ⟨rfl, EW.out.trans' HE1.out⟩
  have HF0 := Lib.hid (hf (by first | rfl | trivial)); clear hf
  have b0 := (HL2.out.ext HE1.out).1
  have b1 := (HL2.out.ext HE1.out).2
  go_wp2_with (fail)
  go_at_call 19
  refine (zFits2 A1 n1 c1 l1 _ HL1.out HN1.out (HP1.out.ext HE1.out)).mono ?_
  rintro e w2 ⟨r, rfl, hf, hE⟩
  have HE2 := Lib.hid (HE1.out.trans' hE)
  clear hE b0 b1
  cases r
  · go_wp2
    go_ret
    exact ⟨rfl, EW.out.trans' HE2.out⟩
  have HF1 := Lib.hid (hf (by first | rfl | trivial)); clear hf
  have b0 := (HL2.out.ext HE2.out).1
  have b1 := (HL2.out.ext HE2.out).2
  go_wp2_with (fail)
  go_at_call 28
  refine (sIsSumSet A0 n0 c0 l0 _ HL0.out HF0.out (HP0.out.ext HE2.out)).mono ?_
  rintro e w3 ⟨rfl, hE⟩
  have HE3 := Lib.hid (HE2.out.trans' hE)
  clear hE b0 b1
  cases hb0 : setB l0
  · go_wp2
    go_ret
    exact ⟨rfl, EW.out.trans' HE3.out⟩
  have HS0 := Lib.hid hb0; clear hb0
  have HB0 := Lib.hid (setB_list HS0.out)
  have H80 := Lib.hid (show n0 ≤ 8 from by have := listB_len HB0.out; have := HL0.out; omega)
  have b0 := (HL2.out.ext HE3.out).1
  have b1 := (HL2.out.ext HE3.out).2
  go_wp2_with (fail)
  go_at_call 28
  refine (sIsSumSet A1 n1 c1 l1 _ HL1.out HF1.out (HP1.out.ext HE3.out)).mono ?_
  rintro e w4 ⟨rfl, hE⟩
  have HE4 := Lib.hid (HE3.out.trans' hE)
  clear hE b0 b1
  cases hb1 : setB l1
  · go_wp2
    go_ret
    exact ⟨rfl, EW.out.trans' HE4.out⟩
  have HS1 := Lib.hid hb1; clear hb1
  have HB1 := Lib.hid (setB_list HS1.out)
  have H81 := Lib.hid (show n1 ≤ 8 from by have := listB_len HB1.out; have := HL1.out; omega)
  have b0 := (HL2.out.ext HE4.out).1
  have b1 := (HL2.out.ext HE4.out).2
  have Z0 := Lib.hid (show ∀ x ∈ l0, 0 ≤ x.2 ∧ x.2 ≤ 1125899906842624 from fun x hx => by have := listB_mem HB0.out x hx; have := isB_posP (setB_is HS0.out) x hx; omega)
  have HX0 := Lib.hid (fun (V : World) (e : Ext W V) => show SlAt V (w.heap.size) A0 n0 c0 l0 from ⟨K0.out.ext e, HP0.out.ext e, HL0.out, by have := H80.out; omega, setB_strict HS0.out, Z0.out⟩)
  have Z1 := Lib.hid (show ∀ x ∈ l1, 0 ≤ x.2 ∧ x.2 ≤ 1125899906842624 from fun x hx => by have := listB_mem HB1.out x hx; have := isB_posP (setB_is HS1.out) x hx; omega)
  have HX1 := Lib.hid (fun (V : World) (e : Ext W V) => show SlAt V (w.heap.size + 1) A1 n1 c1 l1 from ⟨K1.out.ext e, HP1.out.ext e, HL1.out, by have := H81.out; omega, setB_strict HS1.out, Z1.out⟩)
  obtain ⟨r0, hr0⟩ : ∃ b, b = gtB l0 l1 := ⟨_, rfl⟩
  have HR0 := Lib.hid hr0; clear hr0
  obtain ⟨r1, hr1⟩ : ∃ b, b = gteB l0 l1 := ⟨_, rfl⟩
  have HR1 := Lib.hid hr1; clear hr1
  obtain ⟨r2, hr2⟩ : ∃ b, b = gtB l1 l0 := ⟨_, rfl⟩
  have HR2 := Lib.hid hr2; clear hr2
  obtain ⟨r3, hr3⟩ : ∃ b, b = gteB l1 l0 := ⟨_, rfl⟩
  have HR3 := Lib.hid hr3; clear hr3
  obtain ⟨r4, hr4⟩ : ∃ b, b = anyB l0 l1 := ⟨_, rfl⟩
  have HR4 := Lib.hid hr4; clear hr4
  obtain ⟨r5, hr5⟩ : ∃ b, b = anyEB l0 l1 := ⟨_, rfl⟩
  have HR5 := Lib.hid hr5; clear hr5
  obtain ⟨r6, hr6⟩ : ∃ b, b = subB l0 l1 := ⟨_, rfl⟩
  have HR6 := Lib.hid hr6; clear hr6
  obtain ⟨r7, hr7⟩ : ∃ b, b = decide (l0 = l1) := ⟨_, rfl⟩
  have HR7 := Lib.hid hr7; clear hr7
  go_wp2_with (fail)
  go_at_call 46
  refine (all_sub (w.heap.size + 1) A1 A0 n1 c1 n0 c0 l1 l0 _ (HX1.out _ HE4.out) HL0.out (by have := H80.out; omega) (HP0.out.ext HE4.out) Z0.out).mono ?_
  rw [sub_eq (setB_is HS0.out) (setB_is HS1.out), ← HR6.out]
  rintro e w5 ⟨rfl, hE⟩
  have HE5 := Lib.hid (HE4.out.trans' hE)
  clear hE b0 b1
  have G0 := Lib.hid (fun (V : World) (e : Ext W V) => show Calls Tryz.prog 60 #[.slice A0 n0 c0, .slice A1 n1 c1] V (RetE (.bool r0) V) by rw [HR0.out]; exact cAbove A0 A1 n0 c0 n1 c1 l0 l1 V HL0.out HL1.out (by have := H80.out; have := H81.out; omega) (by have := H80.out; have := H81.out; omega) (HP0.out.ext e) (HP1.out.ext e) (setB_strict HS0.out) Z0.out Z1.out)
  have G1 := Lib.hid (fun (V : World) (e : Ext W V) => show Calls Tryz.prog 62 #[.slice A0 n0 c0, .slice A1 n1 c1] V (RetE (.bool r1) V) by rw [HR1.out]; exact cLeast A0 A1 n0 c0 n1 c1 l0 l1 V HL0.out HL1.out (by have := H80.out; have := H81.out; omega) (by have := H80.out; have := H81.out; omega) (HP0.out.ext e) (HP1.out.ext e) (setB_strict HS0.out) Z0.out Z1.out)
  have G2 := Lib.hid (fun (V : World) (e : Ext W V) => show Calls Tryz.prog 60 #[.slice A1 n1 c1, .slice A0 n0 c0] V (RetE (.bool r2) V) by rw [HR2.out]; exact cAbove A1 A0 n1 c1 n0 c0 l1 l0 V HL1.out HL0.out (by have := H80.out; have := H81.out; omega) (by have := H80.out; have := H81.out; omega) (HP1.out.ext e) (HP0.out.ext e) (setB_strict HS1.out) Z1.out Z0.out)
  have G3 := Lib.hid (fun (V : World) (e : Ext W V) => show Calls Tryz.prog 62 #[.slice A1 n1 c1, .slice A0 n0 c0] V (RetE (.bool r3) V) by rw [HR3.out]; exact cLeast A1 A0 n1 c1 n0 c0 l1 l0 V HL1.out HL0.out (by have := H80.out; have := H81.out; omega) (by have := H80.out; have := H81.out; omega) (HP1.out.ext e) (HP0.out.ext e) (setB_strict HS1.out) Z1.out Z0.out)
  have G4 := Lib.hid (fun (V : World) (e : Ext W V) => show Calls Tryz.prog 64 #[.int .i64 0, .pointer (some ⟨w.heap.size, 0, none⟩), .pointer (some ⟨w.heap.size + 1, 0, none⟩)] V (RetE (.bool r4) V) by rw [HR4.out]; exact (by have h := cAny w.heap.size A0 A1 n0 c0 n1 c1 l0 l1 0 V (HL2.out.ext e) (HX1.out V e) HL0.out (by have := H80.out; have := H81.out; omega) (HP0.out.ext e) Z0.out (by omega); rwa [any_eq0] at h))
  have G5 := Lib.hid (fun (V : World) (e : Ext W V) => show Calls Tryz.prog 64 #[.int .i64 1, .pointer (some ⟨w.heap.size, 0, none⟩), .pointer (some ⟨w.heap.size + 1, 0, none⟩)] V (RetE (.bool r5) V) by rw [HR5.out]; exact (by have h := cAny w.heap.size A0 A1 n0 c0 n1 c1 l0 l1 1 V (HL2.out.ext e) (HX1.out V e) HL0.out (by have := H80.out; have := H81.out; omega) (HP0.out.ext e) Z0.out (by omega); rwa [any_eq1] at h))
  have G6 := Lib.hid (fun (V : World) (e : Ext W V) => show Calls Tryz.prog 25 #[.slice A0 n0 c0, .slice A1 n1 c1] V (RetE (.bool r7) V) by rw [HR7.out]; exact ((sSumSame A0 A1 n0 c0 n1 c1 l0 l1 V HL0.out HL1.out (by have := H80.out; have := H81.out; omega) (by have := H80.out; have := H81.out; omega) (HP0.out.ext e) (HP1.out.ext e)).mono fun e w' h => ⟨h.1, ext_q h.2⟩))
  have HV := Lib.hid HE5.out
  have e10 := (HL2.out.ext HV.out).1; have e11 := (HL2.out.ext HV.out).2
  have lp : w.heap.size + 1 < w5.heap.size := cell_lt e11
  have LL0 := Lib.hid (HL2.out.ext HV.out)
  have X0 := Lib.hid (Ext.refl w5)
  go_upto_region 9 with fail
  go_cut [9] (fun s9 wx => AnsBox r0 r1 r2 r3 r4 r5 r6 r7 w5 s9 wx)
  case first =>
    go_region_held3 (fun w' => w'.cell? ⟨w.heap.size, 0, none⟩ = some (.slice A0 n0 c0) ∧ w'.cell? ⟨w.heap.size + 1, 0, none⟩ = some (.slice A1 n1 c1)) ((show L2 w.heap.size A0 n0 c0 A1 n1 c1 _; (repeat (first | (with_reducible refine L2.drew ?_) | (with_reducible refine L2.alloc ?_ _) | (with_reducible refine L2.set1 ?_ ?_ ?_; rotate_left; omega; omega))); with_reducible first | exact LL7.out | exact LL6.out | exact LL5.out | exact LL4.out | exact LL3.out | exact LL2.out | exact LL1.out | exact LL0.out)) (first | (go_at_call 60; (with_reducible refine (G0.out _ (by with_reducible first | exact HV.out.trans' (Ext.drewN' _ 1) | exact HV.out.trans' (ansDD _))).mono ?_); rintro e v1 ⟨rfl, hE⟩; have X1 := Lib.hid (show Ext w5 v1 by with_reducible first | exact ansE0 hE | exact ansE1 hE); have LL1 := Lib.hid (LL0.out.ext X1.out); (try (with_reducible have KB1 := Lib.hid (ansM1 hE))); have sz1 := X1.out.size; clear e10 e11 hE) | (go_at_call 62; (with_reducible refine (G1.out _ (by with_reducible first | exact HV.out.trans' X1.out | exact HV.out.trans' (ansD X1.out))).mono ?_); rintro e v2 ⟨rfl, hE⟩; have X2 := Lib.hid (show Ext w5 v2 by with_reducible first | exact X1.out.trans' hE | exact X1.out.trans' (ansF1 hE)); have LL2 := Lib.hid (LL0.out.ext X2.out); (first | (with_reducible have KB2 := Lib.hid (KB1.out.ext hE)) | (with_reducible have KB2 := Lib.hid (ansN1 hE)) | skip); have sz2 := X2.out.size; clear hE) | (go_at_call 60; (with_reducible refine (G2.out _ (by with_reducible first | exact HV.out.trans' X2.out | exact HV.out.trans' (ansD X2.out))).mono ?_); rintro e v3 ⟨rfl, hE⟩; have X3 := Lib.hid (show Ext w5 v3 by with_reducible first | exact X2.out.trans' hE | exact X2.out.trans' (ansF1 hE)); have LL3 := Lib.hid (LL0.out.ext X3.out); (first | (with_reducible have KB3 := Lib.hid (KB2.out.ext hE)) | (with_reducible have KB3 := Lib.hid (ansN1 hE)) | skip); have sz3 := X3.out.size; clear hE) | (go_at_call 62; (with_reducible refine (G3.out _ (by with_reducible first | exact HV.out.trans' X3.out | exact HV.out.trans' (ansD X3.out))).mono ?_); rintro e v4 ⟨rfl, hE⟩; have X4 := Lib.hid (show Ext w5 v4 by with_reducible first | exact X3.out.trans' hE | exact X3.out.trans' (ansF1 hE)); have LL4 := Lib.hid (LL0.out.ext X4.out); (first | (with_reducible have KB4 := Lib.hid (KB3.out.ext hE)) | (with_reducible have KB4 := Lib.hid (ansN1 hE)) | skip); have sz4 := X4.out.size; clear hE) | (go_at_call 64; (with_reducible refine (G4.out _ (by with_reducible first | exact HV.out.trans' X4.out | exact HV.out.trans' (ansD X4.out))).mono ?_); rintro e v5 ⟨rfl, hE⟩; have X5 := Lib.hid (show Ext w5 v5 by with_reducible first | exact X4.out.trans' hE | exact X4.out.trans' (ansF1 hE)); have LL5 := Lib.hid (LL0.out.ext X5.out); (first | (with_reducible have KB5 := Lib.hid (KB4.out.ext hE)) | (with_reducible have KB5 := Lib.hid (ansN1 hE)) | skip); have sz5 := X5.out.size; clear hE) | (go_at_call 64; (with_reducible refine (G5.out _ (by with_reducible first | exact HV.out.trans' X5.out | exact HV.out.trans' (ansD X5.out))).mono ?_); rintro e v6 ⟨rfl, hE⟩; have X6 := Lib.hid (show Ext w5 v6 by with_reducible first | exact X5.out.trans' hE | exact X5.out.trans' (ansF1 hE)); have LL6 := Lib.hid (LL0.out.ext X6.out); (first | (with_reducible have KB6 := Lib.hid (KB5.out.ext hE)) | (with_reducible have KB6 := Lib.hid (ansN1 hE)) | skip); have sz6 := X6.out.size; clear hE) | (go_at_call 25; (with_reducible refine (G6.out _ (by with_reducible first | exact HV.out.trans' X6.out | exact HV.out.trans' (ansD X6.out))).mono ?_); rintro e v7 ⟨rfl, hE⟩; have X7 := Lib.hid (show Ext w5 v7 by with_reducible first | exact X6.out.trans' hE | exact X6.out.trans' (ansF1 hE)); have LL7 := Lib.hid (LL0.out.ext X7.out); (first | (with_reducible have KB7 := Lib.hid (KB6.out.ext hE)) | (with_reducible have KB7 := Lib.hid (ansN1 hE)) | skip); have sz7 := X7.out.size; clear hE; (try (have FF := Lib.hid (ans_facts KB7.out); have q0 := FF.out.1; have f0 := FF.out.2.1; have q1 := FF.out.2.2.1; have f1 := FF.out.2.2.2.1; have q2 := FF.out.2.2.2.2.1; have f2 := FF.out.2.2.2.2.2.1; have q3 := FF.out.2.2.2.2.2.2.1; have f3 := FF.out.2.2.2.2.2.2.2.1; have q4 := FF.out.2.2.2.2.2.2.2.2.1; have f4 := FF.out.2.2.2.2.2.2.2.2.2.1; have q5 := FF.out.2.2.2.2.2.2.2.2.2.2.1; have f5 := FF.out.2.2.2.2.2.2.2.2.2.2.2.1; have q6 := FF.out.2.2.2.2.2.2.2.2.2.2.2.2.1; have f6 := FF.out.2.2.2.2.2.2.2.2.2.2.2.2.2.1; have q7 := FF.out.2.2.2.2.2.2.2.2.2.2.2.2.2.2.1; have f7 := FF.out.2.2.2.2.2.2.2.2.2.2.2.2.2.2.2))))
    all_goals (go_wp2_with fail; go_meet)
    all_goals first | with_reducible exact ansBox_new r0 r1 r2 r3 r4 r5 r6 r7 X7.out | exact ansBox_old r0 r1 r2 r3 r4 r5 r6 r7 KB7.out (by omega) X7.out
  case rest =>
    obtain ⟨wd, hwd⟩ : ∃ wd, wd = wc := ⟨_, rfl⟩
    subst hwd
    obtain ⟨P, rfl, hP, hK, hE⟩ := hcut
    have KP := Lib.hid hK; have HE := Lib.hid (HV.out.trans' hE)
    clear hP hK hE e10 e11 lp
    have LLc := Lib.hid (HL2.out.ext HE.out)
    have e10 := LLc.out.1; have e11 := LLc.out.2
    have lp : w.heap.size + 1 < wd.heap.size := cell_lt e11
    have Y0 := Lib.hid (Ext.refl wd)
    have GS0 := Lib.hid (fun (V : World) (e : Ext W V) => lSumTo A0 n0 c0 l0 V HL0.out (by have := H80.out; have := H81.out; omega) (HP0.out.ext e))
    have GS1 := Lib.hid (fun (V : World) (e : Ext W V) => lSumTo A1 n1 c1 l1 V HL1.out (by have := H80.out; have := H81.out; omega) (HP1.out.ext e))
    have GC := Lib.hid (fun (V : World) (B C : Option Addr) (d f : Nat) (hB : PlainAt V B l0) (hC : PlainAt V C l1) => show Calls Tryz.prog 67 #[.slice B n0 d, .slice C n1 f] V (RetE (.tuple #[.agg #[.bool r0, .bool r1, .bool r2, .bool r3, .bool r4, .bool r5, .bool r6, .bool r7], .bool true]) V) by rw [HR0.out, HR1.out, HR2.out, HR3.out, HR4.out, HR5.out, HR6.out, HR7.out]; exact iCompare B C n0 d n1 f l0 l1 V HL0.out HL1.out (by have := H80.out; have := H81.out; omega) (by have := H80.out; have := H81.out; omega) hB hC (both (listB_abs HB0.out) (listB_abs HB1.out)) (both (fits_size HF0.out) (fits_size HF1.out)) (setB_is HS0.out) (setB_is HS1.out))
    go_upto_region 10 with fail
    go_cut [10, 11] (fun s10 s11 wx => AnsBox r0 r1 r2 r3 r4 r5 r6 r7 wd s10 wx ∧ s11 = .bool true)
    case first =>
      go_region_held3 (fun w' => w'.cell? ⟨w.heap.size, 0, none⟩ = some (.slice A0 n0 c0) ∧ w'.cell? ⟨w.heap.size + 1, 0, none⟩ = some (.slice A1 n1 c1)) ((show L2 w.heap.size A0 n0 c0 A1 n1 c1 _; (repeat (first | (with_reducible refine L2.drew ?_) | (with_reducible refine L2.alloc ?_ _) | (with_reducible refine L2.set1 ?_ ?_ ?_; rotate_left; omega; omega))); with_reducible first | exact LM3.out | exact LM2.out | exact LM1.out | exact LLc.out)) (first | (go_at_call 22; (with_reducible refine (GS0.out _ (by with_reducible first | exact HE.out.trans' (Ext.drewN' _ 1) | exact HE.out.trans' (ansDD _))).mono ?_); rintro e u1 ⟨v0, rfl, ho0, hE⟩; obtain ⟨B0, d0, hv, hp⟩ := pown_len ho0 HL0.out; subst hv; have HQ0 := Lib.hid hp; have Y1 := Lib.hid (show Ext wd u1 by with_reducible first | exact ansE0 hE | exact ansE1 hE); have LM1 := Lib.hid (LLc.out.ext Y1.out); (try (with_reducible have KC1 := Lib.hid (ansM1 hE))); have ty1 := Y1.out.size; clear hE hp ho0 e10 e11) | (go_at_call 22; (with_reducible refine (GS1.out _ (by with_reducible first | exact HE.out.trans' Y1.out | exact HE.out.trans' (ansD Y1.out))).mono ?_); rintro e u2 ⟨v1, rfl, ho1, hE⟩; obtain ⟨B1, d1, hv, hp⟩ := pown_len ho1 HL1.out; subst hv; have HQ1 := Lib.hid hp; have Y2 := Lib.hid (show Ext wd u2 by with_reducible first | exact Y1.out.trans' hE | exact Y1.out.trans' (ansF1 hE)); have LM2 := Lib.hid (LLc.out.ext Y2.out); (first | (with_reducible have KC2 := Lib.hid (KC1.out.ext hE)) | (with_reducible have KC2 := Lib.hid (ansN1 hE)) | skip); have ty2 := Y2.out.size; have HQ01 := Lib.hid (HQ0.out.ext (show Ext u1 u2 by with_reducible first | exact hE | exact ansF1 hE)); clear hE hp ho1) | (go_at_call 67; (with_reducible refine (GC.out _ B0 B1 d0 d1 (by with_reducible first | exact HQ01.out | exact HQ01.out.ext (ext1 _ _)) (by with_reducible first | exact HQ1.out | exact HQ1.out.ext (ext1 _ _))).mono ?_); rintro e u3 ⟨rfl, hE⟩; have Y3 := Lib.hid (show Ext wd u3 by with_reducible first | exact Y2.out.trans' hE | exact Y2.out.trans' (ansF1 hE)); have LM3 := Lib.hid (LLc.out.ext Y3.out); (first | (with_reducible have KC3 := Lib.hid (KC2.out.ext hE)) | (with_reducible have KC3 := Lib.hid (ansN1 hE)) | skip); have ty3 := Y3.out.size; clear hE; (try (have FF := Lib.hid (ans_facts KC3.out); have q0 := FF.out.1; have f0 := FF.out.2.1; have q1 := FF.out.2.2.1; have f1 := FF.out.2.2.2.1; have q2 := FF.out.2.2.2.2.1; have f2 := FF.out.2.2.2.2.2.1; have q3 := FF.out.2.2.2.2.2.2.1; have f3 := FF.out.2.2.2.2.2.2.2.1; have q4 := FF.out.2.2.2.2.2.2.2.2.1; have f4 := FF.out.2.2.2.2.2.2.2.2.2.1; have q5 := FF.out.2.2.2.2.2.2.2.2.2.2.1; have f5 := FF.out.2.2.2.2.2.2.2.2.2.2.2.1; have q6 := FF.out.2.2.2.2.2.2.2.2.2.2.2.2.1; have f6 := FF.out.2.2.2.2.2.2.2.2.2.2.2.2.2.1; have q7 := FF.out.2.2.2.2.2.2.2.2.2.2.2.2.2.2.1; have f7 := FF.out.2.2.2.2.2.2.2.2.2.2.2.2.2.2.2))))
      all_goals (go_wp2_with fail; go_meet)
      all_goals first | with_reducible exact ⟨ansBox_new r0 r1 r2 r3 r4 r5 r6 r7 Y3.out, rfl⟩ | exact ⟨ansBox_old r0 r1 r2 r3 r4 r5 r6 r7 KC3.out (by omega) Y3.out, rfl⟩
    case rest =>
      obtain ⟨⟨Q, rfl, hQ, hK, hE⟩, rfl⟩ := hcut
      have KQ := Lib.hid hK; have KP2 := Lib.hid (KP.out.ext hE); have LLd := Lib.hid (LLc.out.ext hE); have HE' := Lib.hid (HE.out.trans' hE)
      clear hQ hK hE e10 e11 lp
      have T0 := Lib.hid (Ext.refl wc)
      have GE := Lib.hid (fun (V : World) (B C : Option Addr) (d f : Nat) (hB : PlainAt V B l0) (hC : PlainAt V C l1) => show Calls Tryz.prog 30 #[.slice B n0 d, .slice C n1 f] V (RetE (.bool r7) V) by rw [HR7.out]; exact iEqualSet B C n0 d n1 f l0 l1 V HL0.out HL1.out (by have := H80.out; have := H81.out; omega) (by have := H80.out; have := H81.out; omega) hB hC (listB_max HB0.out) (listB_max HB1.out) (setB_is HS0.out) (setB_is HS1.out))
      have s0 := Lib.hid (show (fun w' => w'.cell? ⟨P, 0, none⟩ = some (.bool r0) ∧ w'.cell? ⟨P, 1, none⟩ = some (.bool r1) ∧ w'.cell? ⟨P, 2, none⟩ = some (.bool r2) ∧ w'.cell? ⟨P, 3, none⟩ = some (.bool r3) ∧ w'.cell? ⟨P, 4, none⟩ = some (.bool r4) ∧ w'.cell? ⟨P, 5, none⟩ = some (.bool r5) ∧ w'.cell? ⟨P, 6, none⟩ = some (.bool r6) ∧ w'.cell? ⟨P, 7, none⟩ = some (.bool r7) ∧ w'.cell? ⟨Q, 0, none⟩ = some (.bool r0) ∧ w'.cell? ⟨Q, 1, none⟩ = some (.bool r1) ∧ w'.cell? ⟨Q, 2, none⟩ = some (.bool r2) ∧ w'.cell? ⟨Q, 3, none⟩ = some (.bool r3) ∧ w'.cell? ⟨Q, 4, none⟩ = some (.bool r4) ∧ w'.cell? ⟨Q, 5, none⟩ = some (.bool r5) ∧ w'.cell? ⟨Q, 6, none⟩ = some (.bool r6) ∧ w'.cell? ⟨Q, 7, none⟩ = some (.bool r7) ∧ w'.cell? ⟨w.heap.size, 0, none⟩ = some (.slice A0 n0 c0) ∧ w'.cell? ⟨w.heap.size + 1, 0, none⟩ = some (.slice A1 n1 c1)) wc from ⟨((KP2.out.ext T0.out).cell 0).trans rfl, ((KP2.out.ext T0.out).cell 1).trans rfl, ((KP2.out.ext T0.out).cell 2).trans rfl, ((KP2.out.ext T0.out).cell 3).trans rfl, ((KP2.out.ext T0.out).cell 4).trans rfl, ((KP2.out.ext T0.out).cell 5).trans rfl, ((KP2.out.ext T0.out).cell 6).trans rfl, ((KP2.out.ext T0.out).cell 7).trans rfl, ((KQ.out.ext T0.out).cell 0).trans rfl, ((KQ.out.ext T0.out).cell 1).trans rfl, ((KQ.out.ext T0.out).cell 2).trans rfl, ((KQ.out.ext T0.out).cell 3).trans rfl, ((KQ.out.ext T0.out).cell 4).trans rfl, ((KQ.out.ext T0.out).cell 5).trans rfl, ((KQ.out.ext T0.out).cell 6).trans rfl, ((KQ.out.ext T0.out).cell 7).trans rfl, (LLd.out.ext T0.out).1, (LLd.out.ext T0.out).2⟩)
      obtain ⟨k0, k1, k2, k3, k4, k5, k6, k7, k8, k9, k10, k11, k12, k13, k14, k15, k16, k17⟩ := s0.out
      go_upto_region 11 with fail
      go_region_held3 (fun w' => w'.cell? ⟨P, 0, none⟩ = some (.bool r0) ∧ w'.cell? ⟨P, 1, none⟩ = some (.bool r1) ∧ w'.cell? ⟨P, 2, none⟩ = some (.bool r2) ∧ w'.cell? ⟨P, 3, none⟩ = some (.bool r3) ∧ w'.cell? ⟨P, 4, none⟩ = some (.bool r4) ∧ w'.cell? ⟨P, 5, none⟩ = some (.bool r5) ∧ w'.cell? ⟨P, 6, none⟩ = some (.bool r6) ∧ w'.cell? ⟨P, 7, none⟩ = some (.bool r7) ∧ w'.cell? ⟨Q, 0, none⟩ = some (.bool r0) ∧ w'.cell? ⟨Q, 1, none⟩ = some (.bool r1) ∧ w'.cell? ⟨Q, 2, none⟩ = some (.bool r2) ∧ w'.cell? ⟨Q, 3, none⟩ = some (.bool r3) ∧ w'.cell? ⟨Q, 4, none⟩ = some (.bool r4) ∧ w'.cell? ⟨Q, 5, none⟩ = some (.bool r5) ∧ w'.cell? ⟨Q, 6, none⟩ = some (.bool r6) ∧ w'.cell? ⟨Q, 7, none⟩ = some (.bool r7) ∧ w'.cell? ⟨w.heap.size, 0, none⟩ = some (.slice A0 n0 c0) ∧ w'.cell? ⟨w.heap.size + 1, 0, none⟩ = some (.slice A1 n1 c1)) (first | exact S4.out | exact S3.out | exact S2.out | exact S1.out | exact s0.out) (first | (go_at_call 22; (with_reducible refine (GS0.out _ (HE'.out.trans' (drew1 _))).mono ?_); rintro e x1 ⟨v0, rfl, ho0, hE⟩; obtain ⟨C0, g0, hv, hp⟩ := pown_len ho0 HL0.out; subst hv; have HQ0 := Lib.hid hp; have T1 := Lib.hid (show Ext wc x1 from Ext.undrew hE); have S1 := Lib.hid (show (fun w' => w'.cell? ⟨P, 0, none⟩ = some (.bool r0) ∧ w'.cell? ⟨P, 1, none⟩ = some (.bool r1) ∧ w'.cell? ⟨P, 2, none⟩ = some (.bool r2) ∧ w'.cell? ⟨P, 3, none⟩ = some (.bool r3) ∧ w'.cell? ⟨P, 4, none⟩ = some (.bool r4) ∧ w'.cell? ⟨P, 5, none⟩ = some (.bool r5) ∧ w'.cell? ⟨P, 6, none⟩ = some (.bool r6) ∧ w'.cell? ⟨P, 7, none⟩ = some (.bool r7) ∧ w'.cell? ⟨Q, 0, none⟩ = some (.bool r0) ∧ w'.cell? ⟨Q, 1, none⟩ = some (.bool r1) ∧ w'.cell? ⟨Q, 2, none⟩ = some (.bool r2) ∧ w'.cell? ⟨Q, 3, none⟩ = some (.bool r3) ∧ w'.cell? ⟨Q, 4, none⟩ = some (.bool r4) ∧ w'.cell? ⟨Q, 5, none⟩ = some (.bool r5) ∧ w'.cell? ⟨Q, 6, none⟩ = some (.bool r6) ∧ w'.cell? ⟨Q, 7, none⟩ = some (.bool r7) ∧ w'.cell? ⟨w.heap.size, 0, none⟩ = some (.slice A0 n0 c0) ∧ w'.cell? ⟨w.heap.size + 1, 0, none⟩ = some (.slice A1 n1 c1)) x1 from ⟨((KP2.out.ext T1.out).cell 0).trans rfl, ((KP2.out.ext T1.out).cell 1).trans rfl, ((KP2.out.ext T1.out).cell 2).trans rfl, ((KP2.out.ext T1.out).cell 3).trans rfl, ((KP2.out.ext T1.out).cell 4).trans rfl, ((KP2.out.ext T1.out).cell 5).trans rfl, ((KP2.out.ext T1.out).cell 6).trans rfl, ((KP2.out.ext T1.out).cell 7).trans rfl, ((KQ.out.ext T1.out).cell 0).trans rfl, ((KQ.out.ext T1.out).cell 1).trans rfl, ((KQ.out.ext T1.out).cell 2).trans rfl, ((KQ.out.ext T1.out).cell 3).trans rfl, ((KQ.out.ext T1.out).cell 4).trans rfl, ((KQ.out.ext T1.out).cell 5).trans rfl, ((KQ.out.ext T1.out).cell 6).trans rfl, ((KQ.out.ext T1.out).cell 7).trans rfl, (LLd.out.ext T1.out).1, (LLd.out.ext T1.out).2⟩); clear hE hp ho0 k0 k1 k2 k3 k4 k5 k6 k7 k8 k9 k10 k11 k12 k13 k14 k15 k16 k17) | (go_at_call 22; (with_reducible refine (GS1.out _ (HE'.out.trans' T1.out)).mono ?_); rintro e x2 ⟨v1, rfl, ho1, hE⟩; obtain ⟨C1, g1, hv, hp⟩ := pown_len ho1 HL1.out; subst hv; have HQ1 := Lib.hid hp; have T2 := Lib.hid (show Ext wc x2 from T1.out.trans' hE); have S2 := Lib.hid (show (fun w' => w'.cell? ⟨P, 0, none⟩ = some (.bool r0) ∧ w'.cell? ⟨P, 1, none⟩ = some (.bool r1) ∧ w'.cell? ⟨P, 2, none⟩ = some (.bool r2) ∧ w'.cell? ⟨P, 3, none⟩ = some (.bool r3) ∧ w'.cell? ⟨P, 4, none⟩ = some (.bool r4) ∧ w'.cell? ⟨P, 5, none⟩ = some (.bool r5) ∧ w'.cell? ⟨P, 6, none⟩ = some (.bool r6) ∧ w'.cell? ⟨P, 7, none⟩ = some (.bool r7) ∧ w'.cell? ⟨Q, 0, none⟩ = some (.bool r0) ∧ w'.cell? ⟨Q, 1, none⟩ = some (.bool r1) ∧ w'.cell? ⟨Q, 2, none⟩ = some (.bool r2) ∧ w'.cell? ⟨Q, 3, none⟩ = some (.bool r3) ∧ w'.cell? ⟨Q, 4, none⟩ = some (.bool r4) ∧ w'.cell? ⟨Q, 5, none⟩ = some (.bool r5) ∧ w'.cell? ⟨Q, 6, none⟩ = some (.bool r6) ∧ w'.cell? ⟨Q, 7, none⟩ = some (.bool r7) ∧ w'.cell? ⟨w.heap.size, 0, none⟩ = some (.slice A0 n0 c0) ∧ w'.cell? ⟨w.heap.size + 1, 0, none⟩ = some (.slice A1 n1 c1)) x2 from ⟨((KP2.out.ext T2.out).cell 0).trans rfl, ((KP2.out.ext T2.out).cell 1).trans rfl, ((KP2.out.ext T2.out).cell 2).trans rfl, ((KP2.out.ext T2.out).cell 3).trans rfl, ((KP2.out.ext T2.out).cell 4).trans rfl, ((KP2.out.ext T2.out).cell 5).trans rfl, ((KP2.out.ext T2.out).cell 6).trans rfl, ((KP2.out.ext T2.out).cell 7).trans rfl, ((KQ.out.ext T2.out).cell 0).trans rfl, ((KQ.out.ext T2.out).cell 1).trans rfl, ((KQ.out.ext T2.out).cell 2).trans rfl, ((KQ.out.ext T2.out).cell 3).trans rfl, ((KQ.out.ext T2.out).cell 4).trans rfl, ((KQ.out.ext T2.out).cell 5).trans rfl, ((KQ.out.ext T2.out).cell 6).trans rfl, ((KQ.out.ext T2.out).cell 7).trans rfl, (LLd.out.ext T2.out).1, (LLd.out.ext T2.out).2⟩); have HQ01 := Lib.hid (HQ0.out.ext hE); clear hE hp ho1) | (go_at_call 30; (with_reducible refine (GE.out _ C0 C1 g0 g1 HQ01.out HQ1.out).mono ?_); rintro e x3 ⟨rfl, hE⟩; have T3 := Lib.hid (show Ext wc x3 from T2.out.trans' hE); have S3 := Lib.hid (show (fun w' => w'.cell? ⟨P, 0, none⟩ = some (.bool r0) ∧ w'.cell? ⟨P, 1, none⟩ = some (.bool r1) ∧ w'.cell? ⟨P, 2, none⟩ = some (.bool r2) ∧ w'.cell? ⟨P, 3, none⟩ = some (.bool r3) ∧ w'.cell? ⟨P, 4, none⟩ = some (.bool r4) ∧ w'.cell? ⟨P, 5, none⟩ = some (.bool r5) ∧ w'.cell? ⟨P, 6, none⟩ = some (.bool r6) ∧ w'.cell? ⟨P, 7, none⟩ = some (.bool r7) ∧ w'.cell? ⟨Q, 0, none⟩ = some (.bool r0) ∧ w'.cell? ⟨Q, 1, none⟩ = some (.bool r1) ∧ w'.cell? ⟨Q, 2, none⟩ = some (.bool r2) ∧ w'.cell? ⟨Q, 3, none⟩ = some (.bool r3) ∧ w'.cell? ⟨Q, 4, none⟩ = some (.bool r4) ∧ w'.cell? ⟨Q, 5, none⟩ = some (.bool r5) ∧ w'.cell? ⟨Q, 6, none⟩ = some (.bool r6) ∧ w'.cell? ⟨Q, 7, none⟩ = some (.bool r7) ∧ w'.cell? ⟨w.heap.size, 0, none⟩ = some (.slice A0 n0 c0) ∧ w'.cell? ⟨w.heap.size + 1, 0, none⟩ = some (.slice A1 n1 c1)) x3 from ⟨((KP2.out.ext T3.out).cell 0).trans rfl, ((KP2.out.ext T3.out).cell 1).trans rfl, ((KP2.out.ext T3.out).cell 2).trans rfl, ((KP2.out.ext T3.out).cell 3).trans rfl, ((KP2.out.ext T3.out).cell 4).trans rfl, ((KP2.out.ext T3.out).cell 5).trans rfl, ((KP2.out.ext T3.out).cell 6).trans rfl, ((KP2.out.ext T3.out).cell 7).trans rfl, ((KQ.out.ext T3.out).cell 0).trans rfl, ((KQ.out.ext T3.out).cell 1).trans rfl, ((KQ.out.ext T3.out).cell 2).trans rfl, ((KQ.out.ext T3.out).cell 3).trans rfl, ((KQ.out.ext T3.out).cell 4).trans rfl, ((KQ.out.ext T3.out).cell 5).trans rfl, ((KQ.out.ext T3.out).cell 6).trans rfl, ((KQ.out.ext T3.out).cell 7).trans rfl, (LLd.out.ext T3.out).1, (LLd.out.ext T3.out).2⟩); clear hE) | (go_at_call 24; refine (sumAwake _).mono ?_; rintro e x4 ⟨rfl, hE⟩; have T4 := Lib.hid (show Ext wc x4 from T3.out.trans' hE); have S4 := Lib.hid (show (fun w' => w'.cell? ⟨P, 0, none⟩ = some (.bool r0) ∧ w'.cell? ⟨P, 1, none⟩ = some (.bool r1) ∧ w'.cell? ⟨P, 2, none⟩ = some (.bool r2) ∧ w'.cell? ⟨P, 3, none⟩ = some (.bool r3) ∧ w'.cell? ⟨P, 4, none⟩ = some (.bool r4) ∧ w'.cell? ⟨P, 5, none⟩ = some (.bool r5) ∧ w'.cell? ⟨P, 6, none⟩ = some (.bool r6) ∧ w'.cell? ⟨P, 7, none⟩ = some (.bool r7) ∧ w'.cell? ⟨Q, 0, none⟩ = some (.bool r0) ∧ w'.cell? ⟨Q, 1, none⟩ = some (.bool r1) ∧ w'.cell? ⟨Q, 2, none⟩ = some (.bool r2) ∧ w'.cell? ⟨Q, 3, none⟩ = some (.bool r3) ∧ w'.cell? ⟨Q, 4, none⟩ = some (.bool r4) ∧ w'.cell? ⟨Q, 5, none⟩ = some (.bool r5) ∧ w'.cell? ⟨Q, 6, none⟩ = some (.bool r6) ∧ w'.cell? ⟨Q, 7, none⟩ = some (.bool r7) ∧ w'.cell? ⟨w.heap.size, 0, none⟩ = some (.slice A0 n0 c0) ∧ w'.cell? ⟨w.heap.size + 1, 0, none⟩ = some (.slice A1 n1 c1)) x4 from ⟨((KP2.out.ext T4.out).cell 0).trans rfl, ((KP2.out.ext T4.out).cell 1).trans rfl, ((KP2.out.ext T4.out).cell 2).trans rfl, ((KP2.out.ext T4.out).cell 3).trans rfl, ((KP2.out.ext T4.out).cell 4).trans rfl, ((KP2.out.ext T4.out).cell 5).trans rfl, ((KP2.out.ext T4.out).cell 6).trans rfl, ((KP2.out.ext T4.out).cell 7).trans rfl, ((KQ.out.ext T4.out).cell 0).trans rfl, ((KQ.out.ext T4.out).cell 1).trans rfl, ((KQ.out.ext T4.out).cell 2).trans rfl, ((KQ.out.ext T4.out).cell 3).trans rfl, ((KQ.out.ext T4.out).cell 4).trans rfl, ((KQ.out.ext T4.out).cell 5).trans rfl, ((KQ.out.ext T4.out).cell 6).trans rfl, ((KQ.out.ext T4.out).cell 7).trans rfl, (LLd.out.ext T4.out).1, (LLd.out.ext T4.out).2⟩); clear hE))
      all_goals go_wp2
      all_goals go_ret
      all_goals exact ⟨rfl, (EW.out.trans' HE'.out).trans' T4.out⟩
end Go.Proofs.YtagfbefgcijegaaGreatDoor
