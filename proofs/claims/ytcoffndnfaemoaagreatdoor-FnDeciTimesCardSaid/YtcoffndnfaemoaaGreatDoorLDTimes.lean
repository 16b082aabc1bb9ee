/-
  The walk of the law FnDeciTimes: it returns true.
-/
import Derived.Test.YtcoffndnfaemoaaGreatDoorHV
import Derived.Test.YtcoffndnfaemoaaGreatDoorHU
import Derived.Test.YtcoffndnfaemoaaGreatDoorGZ
import Derived.Test.YtcoffndnfaemoaaGreatDoorGR
import Derived.Test.YtcoffndnfaemoaaGreatDoorGV
import Derived.Test.YtcoffndnfaemoaaGreatDoorGQ
import Derived.Deep.DeepCutAuto
namespace Go.Proofs.YtcoffndnfaemoaaGreatDoor
open Go Go.RowKit

set_option maxRecDepth 100000 in
set_option maxHeartbeats 4000000 in
theorem lawDTimesRT (A : Option Addr) (n c : Nat) (l : List DP) (x y : Int) (w : World) (hl : l.length = n) (hn : n ≤ 9223372036854775807) (hp : DPlainAt w A l) (hT : Thr w) (hf : ∀ v ∈ vnz (dtimes false (decV x y) (l.map dval)), FitW v.2) :
    Calls Tryz.prog 3 #[.slice A n c, .agg #[.int .i64 x, .int .i64 y], .bool false] w (RetE (.bool true) w) := by
  obtain ⟨W, hW⟩ : ∃ W, W = w.alloc (.cells #[.int .i64 x, .int .i64 y] 24) := ⟨_, rfl⟩
  have EW := Lib.hid (show Ext w W by rw [hW]; exact ext1 _ _)
  have KD := Lib.hid (show Blk W w.heap.size 24 [.int .i64 x, .int .i64 y] by rw [hW]; exact blk_new0 w 24 [.int .i64 x, .int .i64 y])
  have HWW := Lib.hid hW
  have HL := Lib.hid hl; have TW := Lib.hid hT; have HN := Lib.hid hn
  have HP := Lib.hid (show ∀ V, Ext W V → DPlainAt V A l from fun V e => hp.ext (EW.out.trans' e))
  have HF0 := Lib.hid hf
  have HSB := Lib.hid (show ∀ V, Ext W V → V.cell? ⟨w.heap.size, 0, none⟩ = some (.int .i64 x) ∧ V.cell? ⟨w.heap.size, 1, none⟩ = some (.int .i64 y) from fun V e => ⟨((KD.out.ext e).cell 0).trans rfl, ((KD.out.ext e).cell 1).trans rfl⟩)
  clear hW hl hp hT hf hn
  go_enter Tryz.func3, Tryz.ntmps3
  go_wp2_with (fail)
  go_at_call 11
  rw [← HWW.out]
  refine (zFits3 A n c l _ HL.out HN.out (HP.out _ (Ext.refl _))).mono ?_
  rintro e w1 ⟨r1, rfl, -, hE⟩
  have HE1 := Lib.hid hE; clear hE
  cases r1
  · go_wp2
    go_ret
    exact ⟨rfl, EW.out.trans' HE1.out⟩
  go_wp2_with (fail)
  go_at_call 12
  refine (lDeciApart A n c l _ HL.out HN.out (HP.out _ HE1.out)).mono ?_
  rintro e w2 ⟨r2, rfl, hf, hE⟩
  have HE2 := Lib.hid (HE1.out.trans' hE); have HFF := Lib.hid hf; clear hE hf
  cases r2
  · skip
    go_wp2_with (fail)
    go_at_call 14
    refine (deciAwake _ (TW.out.ext (EW.out.trans' HE2.out))).mono ?_
    rintro e w99 ⟨rfl, hE⟩
    have HE99 := Lib.hid (EW.out.trans' ((HE2.out : Ext W _).trans' hE)); clear hE
    go_wp2
    go_ret
    exact ⟨rfl, HE99.out⟩
  obtain ⟨d0, d1⟩ := HSB.out _ HE2.out
  have dl := cell_lt d0
  have HIS := Lib.hid (dIs x y)
  obtain ⟨b3, hb3⟩ : ∃ b, b = decisB x y := ⟨_, rfl⟩
  rw [← hb3] at HIS
  have HB3 := Lib.hid hb3; clear hb3
  go_wp2_with (fail)
  go_at_call 13
  refine (HIS.out _).mono ?_
  rintro e w3 ⟨rfl, hE⟩
  have HE3 := Lib.hid (HE2.out.trans' hE); clear hE d0 d1 dl
  cases b3
  · skip
    go_wp2_with (fail)
    go_at_call 14
    refine (deciAwake _ (TW.out.ext (EW.out.trans' HE3.out))).mono ?_
    rintro e w99 ⟨rfl, hE⟩
    have HE99 := Lib.hid (EW.out.trans' ((HE3.out : Ext W _).trans' hE)); clear hE
    go_wp2
    go_ret
    exact ⟨rfl, HE99.out⟩
  have F := Lib.hid (show l.length ≤ 12 ∧ (∀ v ∈ l, DecB v.2.1 v.2.2) ∧ AscP (l.map dval) by first | exact HFF.out rfl | exact HFF.out trivial)
  have HD := Lib.hid (decisB_iff HB3.out.symm)
  have hn12 : n ≤ 12 := by have := F.out.1; rw [HL.out] at this; exact this
  obtain ⟨u, hu⟩ : ∃ u, u = decV x y := ⟨_, rfl⟩
  have hub : u.natAbs < B64 ^ 2 := by rw [hu]; have := decB_abs HD.out; unfold decV; omega
  have hzb : ∀ v ∈ l.map dval, v.2.natAbs < B64 ^ 2 := fun v hv => by
    obtain ⟨p, hp, rfl⟩ := List.mem_map.1 hv
    have := decB_abs (F.out.2.1 p hp)
    show (decV p.2.1 p.2.2).natAbs < _
    unfold decV; omega
  have HMUL := Lib.hid (fun (A5 : Option Addr) (c5 : Nat) (V : World) (e : Ext W V) (h5 : DPlainAt V A5 l) => iDecMulRT A5 n c5 x y l V HL.out (by omega) h5 F.out.2.1 HD.out F.out.2.2 (TW.out.ext (EW.out.trans' e)) HF0.out)
  obtain ⟨L, hL⟩ : ∃ L, L = vnz (dtimes false (decV x y) (l.map dval)) := ⟨_, rfl⟩
  have HF := Lib.hid HF0.out
  rw [← hL] at HF
  rw [← hL] at HMUL
  have HAB := Lib.hid (show ∀ v ∈ L, v.2.natAbs < B64 ^ 4 by rw [hL, ← hu]; exact vnzt_abs hub hzb)
  have HFB := Lib.hid (show ∀ v ∈ L, FitW v.2 ∧ v.2.natAbs < B64 ^ 4 from fun v hv => ⟨HF.out v hv, HAB.out v hv⟩)
  have HL12 := Lib.hid (show L.length ≤ 1000000 by rw [hL]; have := vnzt_len false (decV x y) (l.map dval); rw [List.length_map, HL.out] at this; omega)
  have HOF := Lib.hid (fun V => sOf x y V HD.out)
  have HEACH := Lib.hid (fun (A9 : Option Addr) (c9 : Nat) (V : World) (h9 : DeAt V A9 (l.map dval)) => sEach A9 n c9 false u (l.map dval) V (by rw [List.length_map]; exact HL.out) (by omega) h9 hzb hub)
  rw [hu, ← hL] at HEACH
  rw [← hu] at HOF HEACH
  clear hL hub hzb hu HFF HIS HB3 HF0
  obtain ⟨d0, d1⟩ := HSB.out _ HE3.out
  have dl := cell_lt d0
  have E0 := Lib.hid (show Ext W w3.drew from HE3.out.trans' (Ext.drewN' w3 1))
  go_upto_region 5 with fail
  go_cut [7, 8] (fun s7 s8 wx => ∃ A7 c7, s7 = .slice A7 L.length c7 ∧ s8 = .bool true ∧ DPlainAt wx A7 (L.map dback) ∧ Ext W wx)
  case first =>
    go_region_held3 (fun V => V.cell? ⟨w.heap.size, 0, none⟩ = some (.int .i64 x) ∧ V.cell? ⟨w.heap.size, 1, none⟩ = some (.int .i64 y)) ((first | exact HSB.out _ E0.out | exact HSB.out _ HE6.out | exact HSB.out _ HE5.out)) (first
      | (go_at_call 16; refine (lDeciOwn A n c l _ HL.out (by omega) (HP.out _ E0.out)).mono ?_; rintro e w5 ⟨v5, rfl, hown, hE⟩; have HE5 := Lib.hid (E0.out.trans' hE); obtain ⟨A5, c5, rfl, -, hat5⟩ := dplain_slice (n := n) hown HL.out; have HA5 := Lib.hid hat5; clear hE hown hat5)
      | (go_at_call 15; refine (HMUL.out A5 c5 _ HE5.out HA5.out).mono ?_; rintro e w6 ⟨v6, rfl, hown, hE⟩; have HE6 := Lib.hid (HE5.out.trans' hE); obtain ⟨A7, c7, rfl, -, hat7⟩ := dplain_slice (n := L.length) hown (by rw [List.length_map]); have HA7 := Lib.hid hat7; clear hE hown hat7))
    all_goals (go_wp2_with fail; go_meet)
    all_goals exact ⟨A7, c7, rfl, rfl, HA7.out, HE6.out⟩
  case rest =>
    obtain ⟨A7, c7, rfl, rfl, ha7, hE⟩ := hcut
    have HA7 := Lib.hid ha7; have HE7 := Lib.hid hE; clear ha7 hE
    clear d0 d1 dl E0
    obtain ⟨d0, d1⟩ := HSB.out _ HE7.out
    have dl := cell_lt d0
    have E0 := Lib.hid (show Ext W wc.drew from HE7.out.trans' (Ext.drewN' wc 1))
    have D0 := Lib.hid (show Ext wc wc.drew from Ext.drewN' wc 1)
    go_upto_region 6 with fail
    go_region_held3 (fun V => V.cell? ⟨w.heap.size, 0, none⟩ = some (.int .i64 x) ∧ V.cell? ⟨w.heap.size, 1, none⟩ = some (.int .i64 y)) ((first | exact HSB.out _ E0.out | exact HSB.out _ (HE7.out.trans' HED3.out) | exact HSB.out _ (HE7.out.trans' HED2.out) | exact HSB.out _ (HE7.out.trans' HEB.out) | exact HSB.out _ (HE7.out.trans' HEA.out) | exact HSB.out _ (HE7.out.trans' HE8.out))) (first
      | (go_at_call 14; refine (deciAwake _ (TW.out.ext (EW.out.trans' E0.out))).mono ?_; rintro e w8 ⟨rfl, hE⟩; have HE8 := Lib.hid (show Ext wc w8 from D0.out.trans' hE); clear hE)
      | (go_at_call 19; refine (lDeciOf A n c l _ HL.out (by omega) (by first | exact HP.out _ (HE7.out.trans' HE8.out) | exact HP.out _ (HE7.out.trans' HEB.out)) F.out.2.1).mono ?_; rintro e w9 ⟨v9, rfl, hown, hE⟩; have HEA := Lib.hid (show Ext wc w9 by first | exact HE8.out.trans' hE | exact HEB.out.trans' hE); obtain ⟨A9, c9, rfl, -, hat9⟩ := de_slice (n := n) hown (by rw [List.length_map]; exact HL.out); have HA9 := Lib.hid hat9; clear hE hown hat9)
      | (go_at_call 20; refine (HOF.out _).mono ?_; rintro e w10 ⟨rfl, hE⟩; have HEB := Lib.hid (show Ext wc w10 by first | exact HEA.out.trans' hE | exact HE8.out.trans' hE); (try (have HA10 := Lib.hid (HA9.out.ext hE))); clear hE)
      | (go_at_call 18; refine (HEACH.out A9 c9 _ (by first | exact HA10.out | exact HA9.out)).mono ?_; rintro e w12 ⟨v12, rfl, hown, hE⟩; have HED2 := Lib.hid (show Ext wc w12 by first | exact HEB.out.trans' hE | exact HEA.out.trans' hE); obtain ⟨A12, c12, rfl, -, hat12⟩ := de_slice (n := L.length) hown rfl; have HW12 := Lib.hid hat12; clear hE hown hat12)
      | (go_at_call 17; refine (lIsAllW A7 A12 L.length c7 c12 L _ rfl HL12.out (HA7.out.ext (HED2.out)) HW12.out HFB.out).mono ?_; rintro e w13 ⟨rfl, hE⟩; have HED3 := Lib.hid (HED2.out.trans' hE); clear hE))
    all_goals (go_wp2_with fail)
    all_goals go_ret
    all_goals exact ⟨rfl, EW.out.trans' (HE7.out.trans' HED3.out)⟩

set_option maxRecDepth 100000 in
set_option maxHeartbeats 4000000 in
theorem lawDTimesRN (A : Option Addr) (n c : Nat) (l : List DP) (x y : Int) (w : World) (hl : l.length = n) (hn : n ≤ 9223372036854775807) (hp : DPlainAt w A l) (hT : Thr w) (hf : ∃ v ∈ vnz (dtimes false (decV x y) (l.map dval)), ¬ FitW v.2) :
    Calls Tryz.prog 3 #[.slice A n c, .agg #[.int .i64 x, .int .i64 y], .bool false] w (RetE (.bool true) w) := by
  obtain ⟨W, hW⟩ : ∃ W, W = w.alloc (.cells #[.int .i64 x, .int .i64 y] 24) := ⟨_, rfl⟩
  have EW := Lib.hid (show Ext w W by rw [hW]; exact ext1 _ _)
  have KD := Lib.hid (show Blk W w.heap.size 24 [.int .i64 x, .int .i64 y] by rw [hW]; exact blk_new0 w 24 [.int .i64 x, .int .i64 y])
  have HWW := Lib.hid hW
  have HL := Lib.hid hl; have TW := Lib.hid hT; have HN := Lib.hid hn
  have HP := Lib.hid (show ∀ V, Ext W V → DPlainAt V A l from fun V e => hp.ext (EW.out.trans' e))
  have HF0 := Lib.hid hf
  have HSB := Lib.hid (show ∀ V, Ext W V → V.cell? ⟨w.heap.size, 0, none⟩ = some (.int .i64 x) ∧ V.cell? ⟨w.heap.size, 1, none⟩ = some (.int .i64 y) from fun V e => ⟨((KD.out.ext e).cell 0).trans rfl, ((KD.out.ext e).cell 1).trans rfl⟩)
  clear hW hl hp hT hf hn
  go_enter Tryz.func3, Tryz.ntmps3
  go_wp2_with (fail)
  go_at_call 11
  rw [← HWW.out]
  refine (zFits3 A n c l _ HL.out HN.out (HP.out _ (Ext.refl _))).mono ?_
  rintro e w1 ⟨r1, rfl, -, hE⟩
  have HE1 := Lib.hid hE; clear hE
  cases r1
  · go_wp2
    go_ret
    exact ⟨rfl, EW.out.trans' HE1.out⟩
  go_wp2_with (fail)
  go_at_call 12
  refine (lDeciApart A n c l _ HL.out HN.out (HP.out _ HE1.out)).mono ?_
  rintro e w2 ⟨r2, rfl, hf, hE⟩
  have HE2 := Lib.hid (HE1.out.trans' hE); have HFF := Lib.hid hf; clear hE hf
  cases r2
  · skip
    go_wp2_with (fail)
    go_at_call 14
    refine (deciAwake _ (TW.out.ext (EW.out.trans' HE2.out))).mono ?_
    rintro e w99 ⟨rfl, hE⟩
    have HE99 := Lib.hid (EW.out.trans' ((HE2.out : Ext W _).trans' hE)); clear hE
    go_wp2
    go_ret
    exact ⟨rfl, HE99.out⟩
  obtain ⟨d0, d1⟩ := HSB.out _ HE2.out
  have dl := cell_lt d0
  have HIS := Lib.hid (dIs x y)
  obtain ⟨b3, hb3⟩ : ∃ b, b = decisB x y := ⟨_, rfl⟩
  rw [← hb3] at HIS
  have HB3 := Lib.hid hb3; clear hb3
  go_wp2_with (fail)
  go_at_call 13
  refine (HIS.out _).mono ?_
  rintro e w3 ⟨rfl, hE⟩
  have HE3 := Lib.hid (HE2.out.trans' hE); clear hE d0 d1 dl
  cases b3
  · skip
    go_wp2_with (fail)
    go_at_call 14
    refine (deciAwake _ (TW.out.ext (EW.out.trans' HE3.out))).mono ?_
    rintro e w99 ⟨rfl, hE⟩
    have HE99 := Lib.hid (EW.out.trans' ((HE3.out : Ext W _).trans' hE)); clear hE
    go_wp2
    go_ret
    exact ⟨rfl, HE99.out⟩
  have F := Lib.hid (show l.length ≤ 12 ∧ (∀ v ∈ l, DecB v.2.1 v.2.2) ∧ AscP (l.map dval) by first | exact HFF.out rfl | exact HFF.out trivial)
  have HD := Lib.hid (decisB_iff HB3.out.symm)
  have hn12 : n ≤ 12 := by have := F.out.1; rw [HL.out] at this; exact this
  obtain ⟨u, hu⟩ : ∃ u, u = decV x y := ⟨_, rfl⟩
  have hub : u.natAbs < B64 ^ 2 := by rw [hu]; have := decB_abs HD.out; unfold decV; omega
  have hzb : ∀ v ∈ l.map dval, v.2.natAbs < B64 ^ 2 := fun v hv => by
    obtain ⟨p, hp, rfl⟩ := List.mem_map.1 hv
    have := decB_abs (F.out.2.1 p hp)
    show (decV p.2.1 p.2.2).natAbs < _
    unfold decV; omega
  have HMUL := Lib.hid (fun (A5 : Option Addr) (c5 : Nat) (V : World) (e : Ext W V) (h5 : DPlainAt V A5 l) => iDecMulRN A5 n c5 x y l V HL.out (by omega) h5 F.out.2.1 HD.out F.out.2.2 (TW.out.ext (EW.out.trans' e)) HF0.out)
  obtain ⟨L, hL⟩ : ∃ L, L = vnz (dtimes false (decV x y) (l.map dval)) := ⟨_, rfl⟩
  have HF := Lib.hid HF0.out
  rw [← hL] at HF
  skip
  have HAB := Lib.hid (show ∀ v ∈ L, v.2.natAbs < B64 ^ 4 by rw [hL, ← hu]; exact vnzt_abs hub hzb)
  skip
  have HL12 := Lib.hid (show L.length ≤ 1000000 by rw [hL]; have := vnzt_len false (decV x y) (l.map dval); rw [List.length_map, HL.out] at this; omega)
  have HOF := Lib.hid (fun V => sOf x y V HD.out)
  have HEACH := Lib.hid (fun (A9 : Option Addr) (c9 : Nat) (V : World) (h9 : DeAt V A9 (l.map dval)) => sEach A9 n c9 false u (l.map dval) V (by rw [List.length_map]; exact HL.out) (by omega) h9 hzb hub)
  rw [hu, ← hL] at HEACH
  rw [← hu] at HOF HEACH
  clear hL hub hzb hu HFF HIS HB3 HF0
  obtain ⟨d0, d1⟩ := HSB.out _ HE3.out
  have dl := cell_lt d0
  have E0 := Lib.hid (show Ext W w3.drew from HE3.out.trans' (Ext.drewN' w3 1))
  go_upto_region 5 with fail
  go_cut [7, 8] (fun s7 s8 wx => s7 = .slice none 0 0 ∧ s8 = .bool false ∧ Ext W wx)
  case first =>
    go_region_held3 (fun V => V.cell? ⟨w.heap.size, 0, none⟩ = some (.int .i64 x) ∧ V.cell? ⟨w.heap.size, 1, none⟩ = some (.int .i64 y)) ((first | exact HSB.out _ E0.out | exact HSB.out _ HE6.out | exact HSB.out _ HE5.out)) (first
      | (go_at_call 16; refine (lDeciOwn A n c l _ HL.out (by omega) (HP.out _ E0.out)).mono ?_; rintro e w5 ⟨v5, rfl, hown, hE⟩; have HE5 := Lib.hid (E0.out.trans' hE); obtain ⟨A5, c5, rfl, -, hat5⟩ := dplain_slice (n := n) hown HL.out; have HA5 := Lib.hid hat5; clear hE hown hat5)
      | (go_at_call 15; refine (HMUL.out A5 c5 _ HE5.out HA5.out).mono ?_; rintro e w6 ⟨rfl, hE⟩; have HE6 := Lib.hid (HE5.out.trans' hE); clear hE))
    all_goals (go_wp2_with fail; go_meet)
    all_goals exact ⟨rfl, rfl, HE6.out⟩
  case rest =>
    obtain ⟨rfl, rfl, hE⟩ := hcut
    have HE7 := Lib.hid hE; clear hE
    clear d0 d1 dl E0
    obtain ⟨d0, d1⟩ := HSB.out _ HE7.out
    have dl := cell_lt d0
    have E0 := Lib.hid (show Ext W wc.drew from HE7.out.trans' (Ext.drewN' wc 1))
    have D0 := Lib.hid (show Ext wc wc.drew from Ext.drewN' wc 1)
    go_upto_region 6 with fail
    go_region_held3 (fun V => V.cell? ⟨w.heap.size, 0, none⟩ = some (.int .i64 x) ∧ V.cell? ⟨w.heap.size, 1, none⟩ = some (.int .i64 y)) ((first | exact HSB.out _ E0.out | exact HSB.out _ (HE7.out.trans' HED3.out) | exact HSB.out _ (HE7.out.trans' HED2.out) | exact HSB.out _ (HE7.out.trans' HEB.out) | exact HSB.out _ (HE7.out.trans' HEA.out) | exact HSB.out _ (HE7.out.trans' HE8.out))) (first
      | (go_at_call 14; refine (deciAwake _ (TW.out.ext (EW.out.trans' E0.out))).mono ?_; rintro e w8 ⟨rfl, hE⟩; have HE8 := Lib.hid (show Ext wc w8 from D0.out.trans' hE); clear hE)
      | (go_at_call 19; refine (lDeciOf A n c l _ HL.out (by omega) (by first | exact HP.out _ (HE7.out.trans' HE8.out) | exact HP.out _ (HE7.out.trans' HEB.out)) F.out.2.1).mono ?_; rintro e w9 ⟨v9, rfl, hown, hE⟩; have HEA := Lib.hid (show Ext wc w9 by first | exact HE8.out.trans' hE | exact HEB.out.trans' hE); obtain ⟨A9, c9, rfl, -, hat9⟩ := de_slice (n := n) hown (by rw [List.length_map]; exact HL.out); have HA9 := Lib.hid hat9; clear hE hown hat9)
      | (go_at_call 20; refine (HOF.out _).mono ?_; rintro e w10 ⟨rfl, hE⟩; have HEB := Lib.hid (show Ext wc w10 by first | exact HEA.out.trans' hE | exact HE8.out.trans' hE); (try (have HA10 := Lib.hid (HA9.out.ext hE))); clear hE)
      | (go_at_call 18; refine (HEACH.out A9 c9 _ (by first | exact HA10.out | exact HA9.out)).mono ?_; rintro e w12 ⟨v12, rfl, hown, hE⟩; have HED2 := Lib.hid (show Ext wc w12 by first | exact HEB.out.trans' hE | exact HEA.out.trans' hE); obtain ⟨A12, c12, rfl, -, hat12⟩ := de_slice (n := L.length) hown rfl; have HW12 := Lib.hid hat12; clear hE hown hat12)
      | (go_at_call 17; refine (lIsAllB none A12 0 L.length 0 c12 L _ rfl HL12.out HW12.out HAB.out HF.out).mono ?_; rintro e w13 ⟨rfl, hE⟩; have HED3 := Lib.hid (HED2.out.trans' hE); clear hE))
    all_goals (go_wp2_with fail)
    all_goals go_ret
    all_goals exact ⟨rfl, EW.out.trans' (HE7.out.trans' HED3.out)⟩

set_option maxRecDepth 100000 in
set_option maxHeartbeats 4000000 in
theorem lawDTimesCT (A : Option Addr) (n c : Nat) (l : List DP) (x y : Int) (w : World) (hl : l.length = n) (hn : n ≤ 9223372036854775807) (hp : DPlainAt w A l) (hT : Thr w) (hf : ∀ v ∈ vnz (dtimes true (decV x y) (l.map dval)), FitW v.2) :
    Calls Tryz.prog 3 #[.slice A n c, .agg #[.int .i64 x, .int .i64 y], .bool true] w (RetE (.bool true) w) := by
  obtain ⟨W, hW⟩ : ∃ W, W = w.alloc (.cells #[.int .i64 x, .int .i64 y] 24) := ⟨_, rfl⟩
  have EW := Lib.hid (show Ext w W by rw [hW]; exact ext1 _ _)
  have KD := Lib.hid (show Blk W w.heap.size 24 [.int .i64 x, .int .i64 y] by rw [hW]; exact blk_new0 w 24 [.int .i64 x, .int .i64 y])
  have HWW := Lib.hid hW
  have HL := Lib.hid hl; have TW := Lib.hid hT; have HN := Lib.hid hn
  have HP := Lib.hid (show ∀ V, Ext W V → DPlainAt V A l from fun V e => hp.ext (EW.out.trans' e))
  have HF0 := Lib.hid hf
  have HSB := Lib.hid (show ∀ V, Ext W V → V.cell? ⟨w.heap.size, 0, none⟩ = some (.int .i64 x) ∧ V.cell? ⟨w.heap.size, 1, none⟩ = some (.int .i64 y) from fun V e => ⟨((KD.out.ext e).cell 0).trans rfl, ((KD.out.ext e).cell 1).trans rfl⟩)
  clear hW hl hp hT hf hn
  go_enter Tryz.func3, Tryz.ntmps3
  go_wp2_with (fail)
  go_at_call 11
  rw [← HWW.out]
  refine (zFits3 A n c l _ HL.out HN.out (HP.out _ (Ext.refl _))).mono ?_
  rintro e w1 ⟨r1, rfl, -, hE⟩
  have HE1 := Lib.hid hE; clear hE
  cases r1
  · go_wp2
    go_ret
    exact ⟨rfl, EW.out.trans' HE1.out⟩
  go_wp2_with (fail)
  go_at_call 12
  refine (lDeciApart A n c l _ HL.out HN.out (HP.out _ HE1.out)).mono ?_
  rintro e w2 ⟨r2, rfl, hf, hE⟩
  have HE2 := Lib.hid (HE1.out.trans' hE); have HFF := Lib.hid hf; clear hE hf
  cases r2
  · skip
    go_wp2_with (fail)
    go_at_call 14
    refine (deciAwake _ (TW.out.ext (EW.out.trans' HE2.out))).mono ?_
    rintro e w99 ⟨rfl, hE⟩
    have HE99 := Lib.hid (EW.out.trans' ((HE2.out : Ext W _).trans' hE)); clear hE
    go_wp2
    go_ret
    exact ⟨rfl, HE99.out⟩
  obtain ⟨d0, d1⟩ := HSB.out _ HE2.out
  have dl := cell_lt d0
  have HIS := Lib.hid (dIs x y)
  obtain ⟨b3, hb3⟩ : ∃ b, b = decisB x y := ⟨_, rfl⟩
  rw [← hb3] at HIS
  have HB3 := Lib.hid hb3; clear hb3
  go_wp2_with (fail)
  go_at_call 13
  refine (HIS.out _).mono ?_
  rintro e w3 ⟨rfl, hE⟩
  have HE3 := Lib.hid (HE2.out.trans' hE); clear hE d0 d1 dl
  cases b3
  · skip
    go_wp2_with (fail)
    go_at_call 14
    refine (deciAwake _ (TW.out.ext (EW.out.trans' HE3.out))).mono ?_
    rintro e w99 ⟨rfl, hE⟩
    have HE99 := Lib.hid (EW.out.trans' ((HE3.out : Ext W _).trans' hE)); clear hE
    go_wp2
    go_ret
    exact ⟨rfl, HE99.out⟩
  have F := Lib.hid (show l.length ≤ 12 ∧ (∀ v ∈ l, DecB v.2.1 v.2.2) ∧ AscP (l.map dval) by first | exact HFF.out rfl | exact HFF.out trivial)
  have HD := Lib.hid (decisB_iff HB3.out.symm)
  have hn12 : n ≤ 12 := by have := F.out.1; rw [HL.out] at this; exact this
  obtain ⟨u, hu⟩ : ∃ u, u = decV x y := ⟨_, rfl⟩
  have hub : u.natAbs < B64 ^ 2 := by rw [hu]; have := decB_abs HD.out; unfold decV; omega
  have hzb : ∀ v ∈ l.map dval, v.2.natAbs < B64 ^ 2 := fun v hv => by
    obtain ⟨p, hp, rfl⟩ := List.mem_map.1 hv
    have := decB_abs (F.out.2.1 p hp)
    show (decV p.2.1 p.2.2).natAbs < _
    unfold decV; omega
  have HMUL := Lib.hid (fun (A5 : Option Addr) (c5 : Nat) (V : World) (e : Ext W V) (h5 : DPlainAt V A5 l) => iDecMulCT A5 n c5 x y l V HL.out (by omega) h5 F.out.2.1 HD.out F.out.2.2 (TW.out.ext (EW.out.trans' e)) HF0.out)
  obtain ⟨L, hL⟩ : ∃ L, L = vnz (dtimes true (decV x y) (l.map dval)) := ⟨_, rfl⟩
  have HF := Lib.hid HF0.out
  rw [← hL] at HF
  rw [← hL] at HMUL
  have HAB := Lib.hid (show ∀ v ∈ L, v.2.natAbs < B64 ^ 4 by rw [hL, ← hu]; exact vnzt_abs hub hzb)
  have HFB := Lib.hid (show ∀ v ∈ L, FitW v.2 ∧ v.2.natAbs < B64 ^ 4 from fun v hv => ⟨HF.out v hv, HAB.out v hv⟩)
  have HL12 := Lib.hid (show L.length ≤ 1000000 by rw [hL]; have := vnzt_len true (decV x y) (l.map dval); rw [List.length_map, HL.out] at this; omega)
  have HOF := Lib.hid (fun V => sOf x y V HD.out)
  have HEACH := Lib.hid (fun (A9 : Option Addr) (c9 : Nat) (V : World) (h9 : DeAt V A9 (l.map dval)) => sEach A9 n c9 true u (l.map dval) V (by rw [List.length_map]; exact HL.out) (by omega) h9 hzb hub)
  rw [hu, ← hL] at HEACH
  rw [← hu] at HOF HEACH
  clear hL hub hzb hu HFF HIS HB3 HF0
  obtain ⟨d0, d1⟩ := HSB.out _ HE3.out
  have dl := cell_lt d0
  have E0 := Lib.hid (show Ext W w3.drew from HE3.out.trans' (Ext.drewN' w3 1))
  go_upto_region 5 with fail
  go_cut [7, 8] (fun s7 s8 wx => ∃ A7 c7, s7 = .slice A7 L.length c7 ∧ s8 = .bool true ∧ DPlainAt wx A7 (L.map dback) ∧ Ext W wx)
  case first =>
    go_region_held3 (fun V => V.cell? ⟨w.heap.size, 0, none⟩ = some (.int .i64 x) ∧ V.cell? ⟨w.heap.size, 1, none⟩ = some (.int .i64 y)) ((first | exact HSB.out _ E0.out | exact HSB.out _ HE6.out | exact HSB.out _ HE5.out)) (first
      | (go_at_call 16; refine (lDeciOwn A n c l _ HL.out (by omega) (HP.out _ E0.out)).mono ?_; rintro e w5 ⟨v5, rfl, hown, hE⟩; have HE5 := Lib.hid (E0.out.trans' hE); obtain ⟨A5, c5, rfl, -, hat5⟩ := dplain_slice (n := n) hown HL.out; have HA5 := Lib.hid hat5; clear hE hown hat5)
      | (go_at_call 15; refine (HMUL.out A5 c5 _ HE5.out HA5.out).mono ?_; rintro e w6 ⟨v6, rfl, hown, hE⟩; have HE6 := Lib.hid (HE5.out.trans' hE); obtain ⟨A7, c7, rfl, -, hat7⟩ := dplain_slice (n := L.length) hown (by rw [List.length_map]); have HA7 := Lib.hid hat7; clear hE hown hat7))
    all_goals (go_wp2_with fail; go_meet)
    all_goals exact ⟨A7, c7, rfl, rfl, HA7.out, HE6.out⟩
  case rest =>
    obtain ⟨A7, c7, rfl, rfl, ha7, hE⟩ := hcut
    have HA7 := Lib.hid ha7; have HE7 := Lib.hid hE; clear ha7 hE
    clear d0 d1 dl E0
    obtain ⟨d0, d1⟩ := HSB.out _ HE7.out
    have dl := cell_lt d0
    have E0 := Lib.hid (show Ext W wc.drew from HE7.out.trans' (Ext.drewN' wc 1))
    have D0 := Lib.hid (show Ext wc wc.drew from Ext.drewN' wc 1)
    go_upto_region 6 with fail
    go_region_held3 (fun V => V.cell? ⟨w.heap.size, 0, none⟩ = some (.int .i64 x) ∧ V.cell? ⟨w.heap.size, 1, none⟩ = some (.int .i64 y)) ((first | exact HSB.out _ E0.out | exact HSB.out _ (HE7.out.trans' HED3.out) | exact HSB.out _ (HE7.out.trans' HED2.out) | exact HSB.out _ (HE7.out.trans' HEB.out) | exact HSB.out _ (HE7.out.trans' HEA.out) | exact HSB.out _ (HE7.out.trans' HE8.out))) (first
      | (go_at_call 14; refine (deciAwake _ (TW.out.ext (EW.out.trans' E0.out))).mono ?_; rintro e w8 ⟨rfl, hE⟩; have HE8 := Lib.hid (show Ext wc w8 from D0.out.trans' hE); clear hE)
      | (go_at_call 19; refine (lDeciOf A n c l _ HL.out (by omega) (by first | exact HP.out _ (HE7.out.trans' HE8.out) | exact HP.out _ (HE7.out.trans' HEB.out)) F.out.2.1).mono ?_; rintro e w9 ⟨v9, rfl, hown, hE⟩; have HEA := Lib.hid (show Ext wc w9 by first | exact HE8.out.trans' hE | exact HEB.out.trans' hE); obtain ⟨A9, c9, rfl, -, hat9⟩ := de_slice (n := n) hown (by rw [List.length_map]; exact HL.out); have HA9 := Lib.hid hat9; clear hE hown hat9)
      | (go_at_call 20; refine (HOF.out _).mono ?_; rintro e w10 ⟨rfl, hE⟩; have HEB := Lib.hid (show Ext wc w10 by first | exact HEA.out.trans' hE | exact HE8.out.trans' hE); (try (have HA10 := Lib.hid (HA9.out.ext hE))); clear hE)
      | (go_at_call 18; refine (HEACH.out A9 c9 _ (by first | exact HA10.out | exact HA9.out)).mono ?_; rintro e w12 ⟨v12, rfl, hown, hE⟩; have HED2 := Lib.hid (show Ext wc w12 by first | exact HEB.out.trans' hE | exact HEA.out.trans' hE); obtain ⟨A12, c12, rfl, -, hat12⟩ := de_slice (n := L.length) hown rfl; have HW12 := Lib.hid hat12; clear hE hown hat12)
      | (go_at_call 17; refine (lIsAllW A7 A12 L.length c7 c12 L _ rfl HL12.out (HA7.out.ext (HED2.out)) HW12.out HFB.out).mono ?_; rintro e w13 ⟨rfl, hE⟩; have HED3 := Lib.hid (HED2.out.trans' hE); clear hE))
    all_goals (go_wp2_with fail)
    all_goals go_ret
    all_goals exact ⟨rfl, EW.out.trans' (HE7.out.trans' HED3.out)⟩

set_option maxRecDepth 100000 in
set_option maxHeartbeats 4000000 in
theorem lawDTimesCN (A : Option Addr) (n c : Nat) (l : List DP) (x y : Int) (w : World) (hl : l.length = n) (hn : n ≤ 9223372036854775807) (hp : DPlainAt w A l) (hT : Thr w) (hf : ∃ v ∈ vnz (dtimes true (decV x y) (l.map dval)), ¬ FitW v.2) :
    Calls Tryz.prog 3 #[.slice A n c, .agg #[.int .i64 x, .int .i64 y], .bool true] w (RetE (.bool true) w) := by
  obtain ⟨W, hW⟩ : ∃ W, W = w.alloc (.cells #[.int .i64 x, .int .i64 y] 24) := ⟨_, rfl⟩
  have EW := Lib.hid (show Ext w W by rw [hW]; exact ext1 _ _)
  have KD := Lib.hid (show Blk W w.heap.size 24 [.int .i64 x, .int .i64 y] by rw [hW]; exact blk_new0 w 24 [.int .i64 x, .int .i64 y])
  have HWW := Lib.hid hW
  have HL := Lib.hid hl; have TW := Lib.hid hT; have HN := Lib.hid hn
  have HP := Lib.hid (show ∀ V, Ext W V → DPlainAt V A l from fun V e => hp.ext (EW.out.trans' e))
  have HF0 := Lib.hid hf
  have HSB := Lib.hid (show ∀ V, Ext W V → V.cell? ⟨w.heap.size, 0, none⟩ = some (.int .i64 x) ∧ V.cell? ⟨w.heap.size, 1, none⟩ = some (.int .i64 y) from fun V e => ⟨((KD.out.ext e).cell 0).trans rfl, ((KD.out.ext e).cell 1).trans rfl⟩)
  clear hW hl hp hT hf hn
  go_enter Tryz.func3, Tryz.ntmps3
  go_wp2_with (fail)
  go_at_call 11
  rw [← HWW.out]
  refine (zFits3 A n c l _ HL.out HN.out (HP.out _ (Ext.refl _))).mono ?_
  rintro e w1 ⟨r1, rfl, -, hE⟩
  have HE1 := Lib.hid hE; clear hE
  cases r1
  · go_wp2
    go_ret
    exact ⟨rfl, EW.out.trans' HE1.out⟩
  go_wp2_with (fail)
  go_at_call 12
  refine (lDeciApart A n c l _ HL.out HN.out (HP.out _ HE1.out)).mono ?_
  rintro e w2 ⟨r2, rfl, hf, hE⟩
  have HE2 := Lib.hid (HE1.out.trans' hE); have HFF := Lib.hid hf; clear hE hf
  cases r2
  · skip
    go_wp2_with (fail)
    go_at_call 14
    refine (deciAwake _ (TW.out.ext (EW.out.trans' HE2.out))).mono ?_
    rintro e w99 ⟨rfl, hE⟩
    have HE99 := Lib.hid (EW.out.trans' ((HE2.out : Ext W _).trans' hE)); clear hE
    go_wp2
    go_ret
    exact ⟨rfl, HE99.out⟩
  obtain ⟨d0, d1⟩ := HSB.out _ HE2.out
  have dl := cell_lt d0
  have HIS := Lib.hid (dIs x y)
  obtain ⟨b3, hb3⟩ : ∃ b, b = decisB x y := ⟨_, rfl⟩
  rw [← hb3] at HIS
  have HB3 := Lib.hid hb3; clear hb3
  go_wp2_with (fail)
  go_at_call 13
  refine (HIS.out _).mono ?_
  rintro e w3 ⟨rfl, hE⟩
  have HE3 := Lib.hid (HE2.out.trans' hE); clear hE d0 d1 dl
  cases b3
  · skip
    go_wp2_with (fail)
    go_at_call 14
    refine (deciAwake _ (TW.out.ext (EW.out.trans' HE3.out))).mono ?_
    rintro e w99 ⟨rfl, hE⟩
    have HE99 := Lib.hid (EW.out.trans' ((HE3.out : Ext W _).trans' hE)); clear hE
    go_wp2
    go_ret
    exact ⟨rfl, HE99.out⟩
  have F := Lib.hid (show l.length ≤ 12 ∧ (∀ v ∈ l, DecB v.2.1 v.2.2) ∧ AscP (l.map dval) by first | exact HFF.out rfl | exact HFF.out trivial)
  have HD := Lib.hid (decisB_iff HB3.out.symm)
  have hn12 : n ≤ 12 := by have := F.out.1; rw [HL.out] at this; exact this
  obtain ⟨u, hu⟩ : ∃ u, u = decV x y := ⟨_, rfl⟩
  have hub : u.natAbs < B64 ^ 2 := by rw [hu]; have := decB_abs HD.out; unfold decV; omega
  have hzb : ∀ v ∈ l.map dval, v.2.natAbs < B64 ^ 2 := fun v hv => by
    obtain ⟨p, hp, rfl⟩ := List.mem_map.1 hv
    have := decB_abs (F.out.2.1 p hp)
    show (decV p.2.1 p.2.2).natAbs < _
    unfold decV; omega
  have HMUL := Lib.hid (fun (A5 : Option Addr) (c5 : Nat) (V : World) (e : Ext W V) (h5 : DPlainAt V A5 l) => iDecMulCN A5 n c5 x y l V HL.out (by omega) h5 F.out.2.1 HD.out F.out.2.2 (TW.out.ext (EW.out.trans' e)) HF0.out)
  obtain ⟨L, hL⟩ : ∃ L, L = vnz (dtimes true (decV x y) (l.map dval)) := ⟨_, rfl⟩
  have HF := Lib.hid HF0.out
  rw [← hL] at HF
  skip
  have HAB := Lib.hid (show ∀ v ∈ L, v.2.natAbs < B64 ^ 4 by rw [hL, ← hu]; exact vnzt_abs hub hzb)
  skip
  have HL12 := Lib.hid (show L.length ≤ 1000000 by rw [hL]; have := vnzt_len true (decV x y) (l.map dval); rw [List.length_map, HL.out] at this; omega)
  have HOF := Lib.hid (fun V => sOf x y V HD.out)
  have HEACH := Lib.hid (fun (A9 : Option Addr) (c9 : Nat) (V : World) (h9 : DeAt V A9 (l.map dval)) => sEach A9 n c9 true u (l.map dval) V (by rw [List.length_map]; exact HL.out) (by omega) h9 hzb hub)
  rw [hu, ← hL] at HEACH
  rw [← hu] at HOF HEACH
  clear hL hub hzb hu HFF HIS HB3 HF0
  obtain ⟨d0, d1⟩ := HSB.out _ HE3.out
  have dl := cell_lt d0
  have E0 := Lib.hid (show Ext W w3.drew from HE3.out.trans' (Ext.drewN' w3 1))
  go_upto_region 5 with fail
  go_cut [7, 8] (fun s7 s8 wx => s7 = .slice none 0 0 ∧ s8 = .bool false ∧ Ext W wx)
  case first =>
    go_region_held3 (fun V => V.cell? ⟨w.heap.size, 0, none⟩ = some (.int .i64 x) ∧ V.cell? ⟨w.heap.size, 1, none⟩ = some (.int .i64 y)) ((first | exact HSB.out _ E0.out | exact HSB.out _ HE6.out | exact HSB.out _ HE5.out)) (first
      | (go_at_call 16; refine (lDeciOwn A n c l _ HL.out (by omega) (HP.out _ E0.out)).mono ?_; rintro e w5 ⟨v5, rfl, hown, hE⟩; have HE5 := Lib.hid (E0.out.trans' hE); obtain ⟨A5, c5, rfl, -, hat5⟩ := dplain_slice (n := n) hown HL.out; have HA5 := Lib.hid hat5; clear hE hown hat5)
      | (go_at_call 15; refine (HMUL.out A5 c5 _ HE5.out HA5.out).mono ?_; rintro e w6 ⟨rfl, hE⟩; have HE6 := Lib.hid (HE5.out.trans' hE); clear hE))
    all_goals (go_wp2_with fail; go_meet)
    all_goals exact ⟨rfl, rfl, HE6.out⟩
  case rest =>
    obtain ⟨rfl, rfl, hE⟩ := hcut
    have HE7 := Lib.hid hE; clear hE
    clear d0 d1 dl E0
    obtain ⟨d0, d1⟩ := HSB.out _ HE7.out
    have dl := cell_lt d0
    have E0 := Lib.hid (show Ext W wc.drew from HE7.out.trans' (Ext.drewN' wc 1))
    have D0 := Lib.hid (show Ext wc wc.drew from Ext.drewN' wc 1)
    go_upto_region 6 with fail
    go_region_held3 (fun V => V.cell? ⟨w.heap.size, 0, none⟩ = some (.int .i64 x) ∧ V.cell? ⟨w.heap.size, 1, none⟩ = some (.int .i64 y)) ((first | exact HSB.out _ E0.out | exact HSB.out _ (HE7.out.trans' HED3.out) | exact HSB.out _ (HE7.out.trans' HED2.out) | exact HSB.out _ (HE7.out.trans' HEB.out) | exact HSB.out _ (HE7.out.trans' HEA.out) | exact HSB.out _ (HE7.out.trans' HE8.out))) (first
      | (go_at_call 14; refine (deciAwake _ (TW.out.ext (EW.out.trans' E0.out))).mono ?_; rintro e w8 ⟨rfl, hE⟩; have HE8 := Lib.hid (show Ext wc w8 from D0.out.trans' hE); clear hE)
      | (go_at_call 19; refine (lDeciOf A n c l _ HL.out (by omega) (by first | exact HP.out _ (HE7.out.trans' HE8.out) | exact HP.out _ (HE7.out.trans' HEB.out)) F.out.2.1).mono ?_; rintro e w9 ⟨v9, rfl, hown, hE⟩; have HEA := Lib.hid (show Ext wc w9 by first | exact HE8.out.trans' hE | exact HEB.out.trans' hE); obtain ⟨A9, c9, rfl, -, hat9⟩ := de_slice (n := n) hown (by rw [List.length_map]; exact HL.out); have HA9 := Lib.hid hat9; clear hE hown hat9)
      | (go_at_call 20; refine (HOF.out _).mono ?_; rintro e w10 ⟨rfl, hE⟩; have HEB := Lib.hid (show Ext wc w10 by first | exact HEA.out.trans' hE | exact HE8.out.trans' hE); (try (have HA10 := Lib.hid (HA9.out.ext hE))); clear hE)
      | (go_at_call 18; refine (HEACH.out A9 c9 _ (by first | exact HA10.out | exact HA9.out)).mono ?_; rintro e w12 ⟨v12, rfl, hown, hE⟩; have HED2 := Lib.hid (show Ext wc w12 by first | exact HEB.out.trans' hE | exact HEA.out.trans' hE); obtain ⟨A12, c12, rfl, -, hat12⟩ := de_slice (n := L.length) hown rfl; have HW12 := Lib.hid hat12; clear hE hown hat12)
      | (go_at_call 17; refine (lIsAllB none A12 0 L.length 0 c12 L _ rfl HL12.out HW12.out HAB.out HF.out).mono ?_; rintro e w13 ⟨rfl, hE⟩; have HED3 := Lib.hid (HED2.out.trans' hE); clear hE))
    all_goals (go_wp2_with fail)
    all_goals go_ret
    all_goals exact ⟨rfl, EW.out.trans' (HE7.out.trans' HED3.out)⟩

theorem lawDTimes (A : Option Addr) (n c : Nat) (l : List DP) (x y : Int) (t : Bool) (w : World) (hl : l.length = n) (hn : n ≤ 9223372036854775807) (hp : DPlainAt w A l) (hT : Thr w) :
    Calls Tryz.prog 3 #[.slice A n c, .agg #[.int .i64 x, .int .i64 y], .bool t] w (RetE (.bool true) w) := by
  by_cases hf : ∀ v ∈ vnz (dtimes t (decV x y) (l.map dval)), FitW v.2
  · cases t
    · exact lawDTimesRT A n c l x y w hl hn hp hT hf
    · exact lawDTimesCT A n c l x y w hl hn hp hT hf
  · have hb : ∃ v ∈ vnz (dtimes t (decV x y) (l.map dval)), ¬ FitW v.2 := by
      simp only [Classical.not_forall] at hf
      obtain ⟨v, hv, h⟩ := hf
      exact ⟨v, hv, h⟩
    cases t
    · exact lawDTimesRN A n c l x y w hl hn hp hT hb
    · exact lawDTimesCN A n c l x y w hl hn hp hT hb
end Go.Proofs.YtcoffndnfaemoaaGreatDoor
