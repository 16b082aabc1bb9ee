/-
  impl.DecAmount; the law FnDeciAmount, for all inputs.
-/
import Derived.Test.YthnghknmgbimbaaGreatDoorLDLess
import Derived.Test.YthnghknmgbimbaaGreatDoorHB
import Derived.Test.YthnghknmgbimbaaGreatDoorGT
namespace Go.Proofs.YthnghknmgbimbaaGreatDoor
open Go Go.RowKit

set_option maxRecDepth 100000 in
set_option maxHeartbeats 2000000 in
theorem iDecAmount (A : Option Addr) (n c : Nat) (t : ByteArray) (l : List DP) (w : World) (hl : l.length = n) (hn : n ≤ 100000) (h : DPlainAt w A l) (hz : ∀ x ∈ l, DecB x.2.1 x.2.2) (hs : AscP (l.map dval)) (hf : FitT (totalP t (l.map dval))) (hT : Thr w) :
    Calls Tryz.prog 30 #[.slice A n c, .string t] w (RetE (.tuple #[.agg #[.int .i64 (Int.tdiv (totalP t (l.map dval)) T18), .int .i64 (Int.tmod (totalP t (l.map dval)) T18)], .bool true]) w) := by
  obtain ⟨T, hTT⟩ : ∃ T, T = totalP t (l.map dval) := ⟨_, rfl⟩
  rw [← hTT] at hf ⊢
  obtain ⟨W, hW⟩ : ∃ W, W = w.alloc (.cells #[.int .i64 0, .int .i64 0] 34) := ⟨_, rfl⟩
  have KR := Lib.hid (show Blk W w.heap.size 34 [.int .i64 0, .int .i64 0] by rw [hW]; exact blk_new0 w 34 [.int .i64 0, .int .i64 0])
  have EW := Lib.hid (show Ext w W by rw [hW]; exact ext1 _ _)
  have HWW := Lib.hid hW; clear hW
  have H1 := Lib.hid (iDecCoins A n c l W hl (by omega) (h.ext EW.out) hz (hT.ext EW.out))
  have HL := Lib.hid hl; have HSO := Lib.hid hs; have HF := Lib.hid hf; have HTT := Lib.hid hTT
  obtain ⟨q, hq⟩ : ∃ q, q = Int.tdiv T T18 := ⟨_, rfl⟩
  obtain ⟨r, hr⟩ : ∃ r, r = Int.tmod T T18 := ⟨_, rfl⟩
  rw [← hq, ← hr]
  have HQ := Lib.hid (And.intro hq hr)
  clear hl h hz hs hf hT hTT hq hr
  go_enter Tryz.func30, Tryz.ntmps30
  go_upto_region 1 with fail
  rw [← HWW.out]
  go_wp2_with (fail)
  go_at_call 59
  refine H1.out.mono ?_
  rintro e w1 ⟨v1, ca, rfl, va, oa, hE1⟩
  obtain ⟨A1, c1, rfl, hc1⟩ := down_cap oa.1
  have la1 := (val_len va).trans HL.out
  rw [la1] at hc1 ⊢
  have H2 := Lib.hid (tdAmountOf t (n + 1) A1 n c1 ca w1 la1 (by omega) (by omega) hc1 (dcoinsAt_own oa rfl) (by rw [va]; exact HSO.out))
  rw [va, ← HTT.out] at H2
  have HE1 := Lib.hid hE1
  clear va oa hE1 hc1 la1
  go_wp2_with (fail)
  go_at_call 68
  refine H2.out.mono ?_
  rintro e w2 ⟨b, rfl, hB, hE2⟩
  have H3 := Lib.hid (iBackDec b T w2 hB HF.out)
  rw [← HQ.out.1, ← HQ.out.2] at H3
  have HE2 := Lib.hid (HE1.out.trans' hE2)
  clear hB hE2
  go_wp2_with (fail)
  go_at_call 67
  refine H3.out.mono ?_
  rintro e w3 ⟨rfl, hE3⟩
  have HE3 := Lib.hid (HE2.out.trans' hE3); have KR3 := Lib.hid (KR.out.ext (HE2.out.trans' hE3)); clear hE3
  have z0 : w3.cell? ⟨w.heap.size, 0, none⟩ = some (.int .i64 0) := (KR3.out.cell 0).trans rfl
  have z1 : w3.cell? ⟨w.heap.size, 1, none⟩ = some (.int .i64 0) := (KR3.out.cell 1).trans rfl
  have f0 := KR3.out.frozen 0; have f1 := KR3.out.frozen 1
  have lz := cell_lt z0
  go_wp2
  exact bodyPost_ret (v := .tuple #[.agg #[.int .i64 q, .int .i64 r], .bool true]) (by simp [results, Tryz.results30, go_sem, z0, z1]) rfl ⟨rfl, Only.ext (EW.out.trans' HE3.out) (((Only.refl _ _).set_ 0 _).set_ 1 _) (by omega)⟩

set_option maxRecDepth 100000 in
set_option maxHeartbeats 2000000 in
theorem lawDAmt (A : Option Addr) (n c : Nat) (l : List DP) (t : ByteArray) (w : World) (hl : l.length = n) (hn : n ≤ 9223372036854775807) (hA : DPlainAt w A l) (hts : t.size ≤ 9223372036854775807) (hT : Thr w) :
    Calls Tryz.prog 5 #[.slice A n c, .string t] w (RetE (.bool true) w) := by
  have HL := Lib.hid hl; have HA := Lib.hid hA; have TW := Lib.hid hT; have HTS := Lib.hid hts
  clear hl hA hT
  go_enter Tryz.func5, Tryz.ntmps5
  go_wp2_with (fail)
  go_at_call 16
  refine (zFits3 A n c l _ HL.out hn HA.out).mono ?_
  rintro e w1 ⟨r, rfl, hf, hE⟩
  have HE1 := Lib.hid hE; clear hE hf
  cases r
  · go_wp2
    go_ret
    exact ⟨rfl, HE1.out⟩
  by_cases hbig : 2147483647 < t.size
  · have hb1 : (2147483647 : Int) < (t.size : Int) := by omega
    go_wp2
    go_ret
    exact ⟨rfl, HE1.out⟩
  have hb1 : ¬ (2147483647 : Int) < (t.size : Int) := by omega
  go_wp2_with (fail)
  go_at_call 17
  refine (lDeciApart A n c l _ HL.out hn (HA.out.ext HE1.out)).mono ?_
  rintro e w3 ⟨r, rfl, hf, hE⟩
  have HE3 := Lib.hid (HE1.out.trans' hE); have HF3 := Lib.hid hf; clear hE hf
  cases r
  · go_wp2_with (go_at_call 18; refine (deciAwake _ (TW.out.ext HE3.out)).mono ?_; rintro e w4 ⟨rfl, hE⟩; have HE4 := Lib.hid (HE3.out.trans' hE); clear hE)
    go_ret
    exact ⟨rfl, HE4.out⟩
  have F3 := Lib.hid (HF3.out rfl)
  have hn12 : n ≤ 12 := by have := F3.out.1; rw [HL.out] at this; exact this
  clear HF3
  obtain ⟨db, hdb⟩ : ∃ db, db = denomB t := ⟨_, rfl⟩
  have HDN := Lib.hid (sDeDenom t w3 hts)
  rw [← hdb] at HDN
  clear hdb
  go_wp2_with (fail)
  go_at_call 29
  refine HDN.out.mono ?_
  rintro e w4 ⟨rfl, rfl⟩
  clear HDN
  cases db
  · go_wp2_with (go_at_call 18; refine (deciAwake _ (TW.out.ext HE3.out)).mono ?_; rintro e w4 ⟨rfl, hE⟩; have HE4 := Lib.hid (HE3.out.trans' hE); clear hE)
    go_ret
    exact ⟨rfl, HE4.out⟩
  obtain ⟨T, hTT⟩ : ∃ T, T = totalP t (l.map dval) := ⟨_, rfl⟩
  have HFT := Lib.hid (show FitT T by
    rw [hTT]
    have := Nat.le_trans (totalP_bound' t (dval_bound F3.out.2.1)) (Nat.mul_le_mul_right _ (show (l.map dval).length ≤ 12 by rw [List.length_map]; exact F3.out.1))
    unfold FitT; omega)
  have HTT := Lib.hid hTT; clear hTT
  obtain ⟨q, hq⟩ : ∃ q, q = Int.tdiv T T18 := ⟨_, rfl⟩
  obtain ⟨r, hr⟩ : ∃ r, r = Int.tmod T T18 := ⟨_, rfl⟩
  have HQ := Lib.hid (And.intro hq hr); clear hq hr
  go_wp2_with (fail)
  go_at_call 20
  refine (lDeciOwn A n c l _ HL.out (by omega) (HA.out.ext HE3.out)).mono ?_
  rintro e w5 ⟨v5, rfl, hown, hE⟩
  have HE5 := Lib.hid (HE3.out.trans' hE); clear hE
  obtain ⟨A5, c5, rfl, -, hat5⟩ := dplain_slice (n := n) hown HL.out
  have HAM := Lib.hid (iDecAmount A5 n c5 t l w5 HL.out (by omega) hat5 F3.out.2.1 F3.out.2.2 (by rw [← HTT.out]; exact HFT.out) (TW.out.ext HE5.out))
  rw [← HTT.out, ← HQ.out.1, ← HQ.out.2] at HAM
  clear hown hat5
  go_wp2_with (fail)
  go_at_call 30
  refine HAM.out.mono ?_
  rintro e w6 ⟨rfl, hE⟩
  have HE6 := Lib.hid (HE5.out.trans' hE); clear hE HAM
  obtain ⟨W7, hW7⟩ : ∃ W7, W7 = w6.alloc (.cells #[.int .i64 q, .int .i64 r] 34) := ⟨_, rfl⟩
  have K7 := Lib.hid (show Blk W7 w6.heap.size 34 [.int .i64 q, .int .i64 r] by rw [hW7]; exact blk_new0 w6 34 [.int .i64 q, .int .i64 r])
  have HE7 := Lib.hid (show Ext w W7 by rw [hW7]; exact HE6.out.trans' (ext1 _ _))
  have HW7 := Lib.hid hW7; clear hW7
  go_upto_region 6 with fail
  rw [← HW7.out]
  generalize w6.heap.size = p at *
  go_wp2_with (fail)
  go_at_call 23
  refine (lDeciOf A n c l _ HL.out (by omega) (HA.out.ext HE7.out) F3.out.2.1).mono ?_
  rintro e w8 ⟨v8, rfl, hown, hE⟩
  have HE8 := Lib.hid (HE7.out.trans' hE); have K8 := Lib.hid (K7.out.ext hE); clear hE
  obtain ⟨A8, c8, rfl, -, hat8⟩ := de_slice (n := n) hown (by rw [List.length_map]; exact HL.out)
  have HDA := Lib.hid (sDeAmount A8 n c8 t (l.map dval) w8 (by rw [List.length_map]; exact HL.out) (by omega) hat8 F3.out.2.2)
  rw [← HTT.out] at HDA
  have HPT := Lib.hid (fun V => sParts T V HFT.out)
  rw [← HQ.out.1, ← HQ.out.2] at HPT
  obtain ⟨tb, t0, t1, t2, t3, _, htz⟩ := de_names t T
  rw [htz] at HDA HPT
  clear hown hat8 htz
  go_wp2_with (fail)
  go_at_call 32
  refine HDA.out.mono ?_
  rintro e w9 ⟨rfl, hE⟩
  have HE9 := Lib.hid (HE8.out.trans' hE); have K9 := Lib.hid (K8.out.ext hE); clear hE HDA
  go_wp2_with (fail)
  go_at_call 31
  refine (HPT.out _).mono ?_
  rintro e w10 ⟨rfl, hE⟩
  have HE10 := Lib.hid (HE9.out.trans' hE); have K10 := Lib.hid (K9.out.ext hE); clear hE HPT
  go_wp2_with (fail)
  go_at_call 18
  refine (deciAwake _ (TW.out.ext HE10.out)).mono ?_
  rintro e w11 ⟨rfl, hE⟩
  have HE11 := Lib.hid (HE10.out.trans' hE); have K11 := Lib.hid (K10.out.ext hE); clear hE
  have z0 : w11.cell? ⟨p, 0, none⟩ = some (.int .i64 q) := (K11.out.cell 0).trans rfl
  have z1 : w11.cell? ⟨p, 1, none⟩ = some (.int .i64 r) := (K11.out.cell 1).trans rfl
  have lz := cell_lt z0
  go_wp2
  go_ret
  exact ⟨rfl, HE11.out⟩
end Go.Proofs.YthnghknmgbimbaaGreatDoor
