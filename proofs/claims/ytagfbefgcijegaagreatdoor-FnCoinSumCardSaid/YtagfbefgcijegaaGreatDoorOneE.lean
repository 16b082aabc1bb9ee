/-
  The contracts of impl.SubOne and SubAmount.
-/
import Derived.Test.YtagfbefgcijegaaGreatDoorOneD
namespace Go.Proofs.YtagfbefgcijegaaGreatDoor
open Go Go.RowKit

theorem box_facts {w : World} {P : Nat} (h : Blk w P 81 [.string ⟨#[]⟩, .pointer none]) : w.cell? ⟨P, 0, none⟩ = some (.string ⟨#[]⟩) ∧ w.cell? ⟨P, 1, none⟩ = some (.pointer none) ∧ w.frozen? ⟨P, 0, none⟩ = false ∧ w.frozen? ⟨P, 1, none⟩ = false :=
  ⟨(h.cell 0).trans rfl, (h.cell 1).trans rfl, h.frozen 0, h.frozen 1⟩
theorem tSafeSubYes (s : ByteArray) (a b : Nat) (y z : Int) (w : World) (hu : BigAt w a y) (hv : BigAt w b z) (hy : y.natAbs < B64) (hz : z.natAbs < B64) (hs : (y - z).natAbs < B64) (h : 0 ≤ y - z) :
    Calls Tryz.prog 91 #[coinV s a, coinV s b] w (RetSafe1 s (y - z) w) :=
  (tSafeSub s a b y z w hu hv hy hz hs).mono fun e w' h' => by
    rcases h' with ⟨_, h'⟩ | ⟨h2, _⟩
    · exact h'
    · omega
theorem tSafeSubNeg (s : ByteArray) (a b : Nat) (y z : Int) (w : World) (hu : BigAt w a y) (hv : BigAt w b z) (hy : y.natAbs < B64) (hz : z.natAbs < B64) (hs : (y - z).natAbs < B64) (h : y - z < 0) :
    Calls Tryz.prog 91 #[coinV s a, coinV s b] w (RetSafeNo w) :=
  (tSafeSub s a b y z w hu hv hy hz hs).mono fun e w' h' => by
    rcases h' with ⟨h2, _⟩ | ⟨_, h'⟩
    · omega
    · exact h'
theorem set1_S4 {n q i : Nat} {s t : ByteArray} {y z : Int} {w : World} {u : Value} (h : S4 n s y t z w) (h1 : n ≠ q) (h2 : n + 1 ≠ q) : S4 n s y t z (w.setCell ⟨q, i, none⟩ u) := ⟨set_far h.1 h1, set_far h.2.1 h1, set_far h.2.2.1 h2, set_far h.2.2.2 h2⟩

set_option maxRecDepth 100000 in
set_option maxHeartbeats 4000000 in
theorem iSubOneYes (s : ByteArray) (y z : Int) (w : World) (h0 : y.natAbs ≤ 1125899906842624) (h1 : z.natAbs ≤ 1125899906842624) (hp : 0 ≤ y - z) :
    Calls Tryz.prog 43 #[.agg #[.string s, .int .i64 y], .agg #[.string s, .int .i64 z]] w (RetE (.tuple #[.agg #[.string s, .int .i64 (y - z)], .bool true]) w) := by
  have HY := Lib.hid (fun W : World => iCoin s y W (by unfold maxI; omega) (by unfold maxI; omega))
  have HZ := Lib.hid (fun W : World => iCoin s z W (by unfold maxI; omega) (by unfold maxI; omega))
  have HS := Lib.hid (fun (W : World) (a b : Nat) (hA : BigAt W a y) (hB : BigAt W b z) => tSafeSubYes s a b y z W hA hB (by unfold B64; omega) (by unfold B64; omega) (by unfold B64; omega) hp)
  have HBD := Lib.hid (show -maxI ≤ y - z ∧ y - z ≤ maxI by unfold maxI; omega)
  obtain ⟨W, hW⟩ : ∃ W, W = ((w.alloc (planBox s y)).alloc (planBox s z)).alloc (planBox ⟨#[]⟩ 0) := ⟨_, rfl⟩
  have K0 := Lib.hid (show Blk W w.heap.size 37 [.string s, .int .i64 y] by rw [hW]; exact ((blk_new0 w 37 [.string s, .int .i64 y]).alloc _).alloc _)
  have K1 := Lib.hid (show Blk W (w.heap.size + 1) 37 [.string s, .int .i64 z] by rw [hW]; exact (blk_new1 w (planBox s y) 37 [.string s, .int .i64 z]).alloc _)
  have K2 := Lib.hid (show Blk W (w.heap.size + 2) 37 [.string ⟨#[]⟩, .int .i64 0] by rw [hW]; exact blk_new2 w _ _ 37 [.string ⟨#[]⟩, .int .i64 0])
  have E3 := Lib.hid (show Ext w W by rw [hW]; exact ext3 _ _ _ _)
  have HWW := Lib.hid hW; clear hW
  have KS0 := Lib.hid (show S4 w.heap.size s y s z W from ⟨(K0.out.cell 0).trans rfl, (K0.out.cell 1).trans rfl, (K1.out.cell 0).trans rfl, (K1.out.cell 1).trans rfl⟩)
  have c00 := KS0.out.1; have c01 := KS0.out.2.1; have c10 := KS0.out.2.2.1; have c11 := KS0.out.2.2.2
  have l10 : w.heap.size + 1 < W.heap.size := cell_lt c10
  clear h0 h1 hp
  go_enter Tryz.func43, Tryz.ntmps43
  go_upto_region 1 with fail
  rw [← HWW.out]
  go_cut [6, 7] (fun s6 s7 wx => CoinBox s (y - z) W s6 wx ∧ s7 = .nilIface)
  case first =>
    go_region_held3 (fun w' => w'.cell? ⟨w.heap.size, 0, none⟩ = some (.string s) ∧ w'.cell? ⟨w.heap.size, 1, none⟩ = some (.int .i64 y) ∧ w'.cell? ⟨w.heap.size + 1, 0, none⟩ = some (.string s) ∧ w'.cell? ⟨w.heap.size + 1, 1, none⟩ = some (.int .i64 z)) ((show S4 w.heap.size s y s z _; (repeat (first | (with_reducible refine S4.drew ?_) | (with_reducible refine S4.alloc ?_ _) | (with_reducible refine set1_S4 ?_ ?_ ?_; rotate_left; omega; omega))); with_reducible first | exact KS3.out | exact KS2.out | exact KS1.out | exact KS0.out)) (first | (go_at_call 83; (with_reducible refine (HY.out _).mono ?_); rintro e w1 ⟨b1, rfl, hB, hE⟩; have HB1 := Lib.hid hB; have HE1 := Lib.hid (show Ext W w1 by with_reducible first | exact coinE0 hE | exact coinE1 hE); have KS1 := Lib.hid (KS0.out.ext HE1.out); have sz1 := HE1.out.size; (try (with_reducible have KA := Lib.hid (coinM1 hE))); clear hE hB c00 c01 c10 c11) | (go_at_call 83; (with_reducible refine (HZ.out _).mono ?_); rintro e w2 ⟨b2, rfl, hB, hE⟩; have HB2 := Lib.hid hB; have HE12 := Lib.hid (show Ext w1 w2 by with_reducible first | exact hE | exact coinF1 hE); have HE2 := Lib.hid (HE1.out.trans' HE12.out); have HB12 := Lib.hid (HB1.out.ext HE12.out); have KS2 := Lib.hid (KS1.out.ext HE12.out); have sz2 := HE12.out.size; (first | (with_reducible have KB := Lib.hid (KA.out.ext HE12.out)) | (with_reducible have KB := Lib.hid (coinN1 hE)) | skip); clear hE hB) | (go_at_call 91; refine (HS.out _ b1 b2 (by with_reducible first | exact HB12.out | exact HB12.out.ext (ext1 _ _)) (by with_reducible first | exact HB2.out | exact HB2.out.ext (ext1 _ _))).mono ?_; rintro e w3 ⟨b3, rfl, hB, hE⟩; have HB := Lib.hid hB; have HE23 := Lib.hid (show Ext w2 w3 by with_reducible first | exact hE | exact coinF1 hE); have HE := Lib.hid (HE2.out.trans' HE23.out); have KS3 := Lib.hid (KS2.out.ext HE23.out); have sz3 := HE23.out.size; (first | ((with_reducible have K9 := Lib.hid (KB.out.ext HE23.out)); obtain ⟨q0, q1, g0, g1⟩ := box_facts K9.out) | ((with_reducible have K9 := Lib.hid (coinN1 hE)); obtain ⟨q0, q1, g0, g1⟩ := box_facts K9.out) | skip); clear hE hB))
    all_goals (go_wp2_with fail; go_meet)
    all_goals first | exact ⟨coinBox_new s HB.out HE.out, rfl⟩ | exact ⟨coinBox_old s K9.out (by omega) HB.out HE.out, rfl⟩
  case rest =>
    obtain ⟨⟨p, r, rfl, hp, hK, hB, hE⟩, rfl⟩ := hcut
    have HB := Lib.hid hB; have HE := Lib.hid hE
    have c0 : wc.cell? ⟨p, 0, none⟩ = some (.string s) := (hK.cell 0).trans rfl
    have c1 : wc.cell? ⟨p, 1, none⟩ = some (.pointer (some ⟨r, 0, none⟩)) := (hK.cell 1).trans rfl
    clear hp hK hB hE c00 c01 c10 c11 l10
    go_wp2_with (fail)
    go_at_call 79
    refine (iBackCoin s r (y - z) _ HB.out HBD.out.1 HBD.out.2).mono ?_
    rintro e w4 ⟨rfl, hE⟩
    have HE4 := Lib.hid (HE.out.trans' hE)
    have kz := Lib.hid (K2.out.ext HE4.out)
    have d0 : w4.cell? ⟨w.heap.size + 2, 0, none⟩ = some (.string ⟨#[]⟩) := (kz.out.cell 0).trans rfl
    have d1 : w4.cell? ⟨w.heap.size + 2, 1, none⟩ = some (.int .i64 0) := (kz.out.cell 1).trans rfl
    have f0 := kz.out.frozen 0
    have f1 := kz.out.frozen 1
    clear hE
    go_wp2
    exact bodyPost_ret (v := .tuple #[.agg #[.string s, .int .i64 (y - z)], .bool true]) (by simp [results, Tryz.results43, go_sem, d0, d1]) rfl ⟨rfl, Only.ext (E3.out.trans' HE4.out) (((Only.refl _ _).set_ 0 _).set_ 1 _) (by omega)⟩

set_option maxRecDepth 100000 in
set_option maxHeartbeats 4000000 in
theorem iSubOneNo (s t : ByteArray) (y z : Int) (w : World) (h0 : y.natAbs ≤ 1125899906842624) (h1 : z.natAbs ≤ 1125899906842624) (hno : ∀ (W : World) (a b : Nat), BigAt W a y → BigAt W b z → Calls Tryz.prog 91 #[coinV s a, coinV t b] W (RetSafeNo W)) :
    Calls Tryz.prog 43 #[.agg #[.string s, .int .i64 y], .agg #[.string t, .int .i64 z]] w (RetE (.tuple #[.agg #[.string ⟨#[]⟩, .int .i64 0], .bool false]) w) := by
  have HY := Lib.hid (fun W : World => iCoin s y W (by unfold maxI; omega) (by unfold maxI; omega))
  have HZ := Lib.hid (fun W : World => iCoin t z W (by unfold maxI; omega) (by unfold maxI; omega))
  have HS := Lib.hid hno
  obtain ⟨W, hW⟩ : ∃ W, W = ((w.alloc (planBox s y)).alloc (planBox t z)).alloc (planBox ⟨#[]⟩ 0) := ⟨_, rfl⟩
  have K0 := Lib.hid (show Blk W w.heap.size 37 [.string s, .int .i64 y] by rw [hW]; exact ((blk_new0 w 37 [.string s, .int .i64 y]).alloc _).alloc _)
  have K1 := Lib.hid (show Blk W (w.heap.size + 1) 37 [.string t, .int .i64 z] by rw [hW]; exact (blk_new1 w (planBox s y) 37 [.string t, .int .i64 z]).alloc _)
  have K2 := Lib.hid (show Blk W (w.heap.size + 2) 37 [.string ⟨#[]⟩, .int .i64 0] by rw [hW]; exact blk_new2 w _ _ 37 [.string ⟨#[]⟩, .int .i64 0])
  have E3 := Lib.hid (show Ext w W by rw [hW]; exact ext3 _ _ _ _)
  have HWW := Lib.hid hW; clear hW
  have KS0 := Lib.hid (show S4 w.heap.size s y t z W from ⟨(K0.out.cell 0).trans rfl, (K0.out.cell 1).trans rfl, (K1.out.cell 0).trans rfl, (K1.out.cell 1).trans rfl⟩)
  have c00 := KS0.out.1; have c01 := KS0.out.2.1; have c10 := KS0.out.2.2.1; have c11 := KS0.out.2.2.2
  have l10 : w.heap.size + 1 < W.heap.size := cell_lt c10
  clear h0 h1 hno
  go_enter Tryz.func43, Tryz.ntmps43
  go_upto_region 1 with fail
  rw [← HWW.out]
  go_cut [6, 7] (fun s6 s7 wx => (∃ eb, s7 = .iface 134 (.pointer (some ⟨eb, 0, none⟩))) ∧ (∃ p, s6 = .pointer (some ⟨p, 0, none⟩)) ∧ Ext W wx)
  case first =>
    go_region_held3 (fun w' => w'.cell? ⟨w.heap.size, 0, none⟩ = some (.string s) ∧ w'.cell? ⟨w.heap.size, 1, none⟩ = some (.int .i64 y) ∧ w'.cell? ⟨w.heap.size + 1, 0, none⟩ = some (.string t) ∧ w'.cell? ⟨w.heap.size + 1, 1, none⟩ = some (.int .i64 z)) ((show S4 w.heap.size s y t z _; (repeat (first | (with_reducible refine S4.drew ?_) | (with_reducible refine S4.alloc ?_ _) | (with_reducible refine set1_S4 ?_ ?_ ?_; rotate_left; omega; omega))); with_reducible first | exact KS3.out | exact KS2.out | exact KS1.out | exact KS0.out)) (first | (go_at_call 83; (with_reducible refine (HY.out _).mono ?_); rintro e w1 ⟨b1, rfl, hB, hE⟩; have HB1 := Lib.hid hB; have HE1 := Lib.hid (show Ext W w1 by with_reducible first | exact coinE0 hE | exact coinE1 hE); have KS1 := Lib.hid (KS0.out.ext HE1.out); have sz1 := HE1.out.size; (try (with_reducible have KA := Lib.hid (coinM1 hE))); clear hE hB c00 c01 c10 c11) | (go_at_call 83; (with_reducible refine (HZ.out _).mono ?_); rintro e w2 ⟨b2, rfl, hB, hE⟩; have HB2 := Lib.hid hB; have HE12 := Lib.hid (show Ext w1 w2 by with_reducible first | exact hE | exact coinF1 hE); have HE2 := Lib.hid (HE1.out.trans' HE12.out); have HB12 := Lib.hid (HB1.out.ext HE12.out); have KS2 := Lib.hid (KS1.out.ext HE12.out); have sz2 := HE12.out.size; (first | (with_reducible have KB := Lib.hid (KA.out.ext HE12.out)) | (with_reducible have KB := Lib.hid (coinN1 hE)) | skip); clear hE hB) | (go_at_call 91; refine (HS.out _ b1 b2 (by with_reducible first | exact HB12.out | exact HB12.out.ext (ext1 _ _)) (by with_reducible first | exact HB2.out | exact HB2.out.ext (ext1 _ _))).mono ?_; rintro e w3 ⟨eb, rfl, hE⟩; have HE23 := Lib.hid (show Ext w2 w3 by with_reducible first | exact hE | exact coinF1 hE); have HE := Lib.hid (HE2.out.trans' HE23.out); have KS3 := Lib.hid (KS2.out.ext HE23.out); have sz3 := HE23.out.size; (first | ((with_reducible have K9 := Lib.hid (KB.out.ext HE23.out)); obtain ⟨q0, q1, g0, g1⟩ := box_facts K9.out) | ((with_reducible have K9 := Lib.hid (coinN1 hE)); obtain ⟨q0, q1, g0, g1⟩ := box_facts K9.out) | skip); clear hE))
    all_goals (go_wp2_with fail; go_meet)
    all_goals first | exact ⟨⟨_, rfl⟩, ⟨_, rfl⟩, HE.out.trans' (ext1 _ _)⟩ | exact ⟨⟨_, rfl⟩, ⟨_, rfl⟩, ext_two HE.out (by omega)⟩
  case rest =>
    obtain ⟨⟨eb, rfl⟩, ⟨p, rfl⟩, hE⟩ := hcut
    obtain ⟨w4, h4⟩ : ∃ w4, w4 = wc := ⟨_, rfl⟩
    rw [← h4] at hE ⊢
    have HE4 := Lib.hid hE
    clear h4 c00 c01 c10 c11 l10
    have kz := Lib.hid (K2.out.ext HE4.out)
    have d0 : w4.cell? ⟨w.heap.size + 2, 0, none⟩ = some (.string ⟨#[]⟩) := (kz.out.cell 0).trans rfl
    have d1 : w4.cell? ⟨w.heap.size + 2, 1, none⟩ = some (.int .i64 0) := (kz.out.cell 1).trans rfl
    have f0 := kz.out.frozen 0
    have f1 := kz.out.frozen 1
    clear hE
    go_wp2
    exact bodyPost_ret (v := .tuple #[.agg #[.string ⟨#[]⟩, .int .i64 0], .bool false]) (by simp [results, Tryz.results43, go_sem, d0, d1]) rfl ⟨rfl, Only.ext (E3.out.trans' HE4.out) (((Only.refl _ _).set_ 0 _).set_ 1 _) (by omega)⟩

set_option maxRecDepth 100000 in
set_option maxHeartbeats 2000000 in
theorem iSubAmountYes (s : ByteArray) (y n : Int) (w : World) (h0 : y.natAbs ≤ 1125899906842624) (h1 : n.natAbs ≤ 1125899906842624) (hp : 0 ≤ y - n) :
    Calls Tryz.prog 45 #[.agg #[.string s, .int .i64 y], .int .i64 n] w (RetE (.tuple #[.agg #[.string s, .int .i64 (y - n)], .bool true]) w) := by
  have HY := Lib.hid (fun W : World => iCoin s y W (by unfold maxI; omega) (by unfold maxI; omega))
  have HN := Lib.hid (fun W : World => mNewInt n W (by unfold maxI; omega) (by unfold maxI; omega))
  have HBD := Lib.hid (show y.natAbs < B64 ∧ n.natAbs < B64 ∧ (y - n).natAbs < B64 ∧ -maxI ≤ y - n ∧ y - n ≤ maxI by unfold B64 maxI; omega)
  have HG := Lib.hid (show (sgn (y - n) == -1) = false by unfold sgn; rw [if_neg (by omega)]; split <;> rfl)
  have HP := Lib.hid hp
  have k0 := Lib.hid ((blk_new0 w 37 [.string s, .int .i64 y]).alloc (planBox ⟨#[]⟩ 0))
  have kC := Lib.hid (blk_new1 w (planBox s y) 37 [.string ⟨#[]⟩, .int .i64 0])
  clear h0 h1 hp
  have hfd : ∀ (b : Nat) (V : World), (Instr.field 81 (.agg #[.string s, .pointer (some ⟨b, 0, none⟩)]) 1).run Tryz.prog V = .ok (.agg #[.pointer (some ⟨b, 0, none⟩)]) V := fun _ _ => by kernel_rfl
  go_enter Tryz.func45, Tryz.ntmps45
  go_wp2_with (fail)
  go_at_call 83
  refine (HY.out _).mono ?_
  rintro e w1 ⟨b1, rfl, hB, hE⟩
  have HB1 := Lib.hid hB; have HE1 := Lib.hid hE; clear hB hE
  go_wp2_with (fail)
  go_at_call 93
  refine (HN.out _).mono ?_
  rintro e w2 ⟨b2, rfl, hB, hE⟩
  have HB2 := Lib.hid hB; have HE2 := Lib.hid (HE1.out.trans' hE); have HB12 := Lib.hid (HB1.out.ext hE); clear hB hE
  go_wp2_with (fail)
  go_at_call 94
  refine (mSub b1 b2 y n _ HB12.out HB2.out HBD.out.1 HBD.out.2.1 HBD.out.2.2.1).mono ?_
  rintro e w3 ⟨b3, rfl, hB, hE⟩
  have HB3 := Lib.hid hB; have HE3 := Lib.hid (HE2.out.trans' hE); clear hB hE
  go_wp2_with (fail)
  go_at_call 95
  refine (mIsNegative b3 (y - n) _ HB3.out).mono ?_
  rw [HG.out]
  rintro e w4 ⟨rfl, hE⟩
  have HE4 := Lib.hid (HE3.out.trans' hE); clear hE
  have c0 : w4.cell? ⟨w.heap.size, 0, none⟩ = some (.string s) := ((k0.out.ext HE4.out).cell 0).trans rfl
  have c1 : w4.cell? ⟨w.heap.size, 1, none⟩ = some (.int .i64 y) := ((k0.out.ext HE4.out).cell 1).trans rfl
  go_wp2_with (fail)
  go_at_call 83
  refine (HY.out _).mono ?_
  rintro e w5 ⟨b5, rfl, hB, hE⟩
  have HB5 := Lib.hid hB; have HE5 := Lib.hid (HE4.out.trans' hE); clear hB hE c0 c1
  go_wp2_with (fail)
  go_at_call 93
  refine (HN.out _).mono ?_
  rintro e w6 ⟨b6, rfl, hB, hE⟩
  have HB6 := Lib.hid hB; have HE6 := Lib.hid (HE5.out.trans' hE); have HB56 := Lib.hid (HB5.out.ext hE); clear hB hE
  go_wp2_with (fail)
  go_at_call 96
  refine (tSubAmount s b5 b6 y n _ HB56.out HB6.out HBD.out.1 HBD.out.2.1 HBD.out.2.2.1 HP.out).mono ?_
  rintro e w7 ⟨b7, rfl, hB, hE⟩
  have HB7 := Lib.hid hB; have HE7 := Lib.hid (HE6.out.trans' hE); clear hB hE
  go_wp2_with (fail)
  go_at_call 79
  refine (iBackCoin s b7 (y - n) _ HB7.out HBD.out.2.2.2.1 HBD.out.2.2.2.2).mono ?_
  rintro e w8 ⟨rfl, hE⟩
  have HE8 := Lib.hid (HE7.out.trans' hE); clear hE
  have kz := Lib.hid (kC.out.ext HE8.out)
  have d0 : w8.cell? ⟨w.heap.size + 1, 0, none⟩ = some (.string ⟨#[]⟩) := (kz.out.cell 0).trans rfl
  have d1 : w8.cell? ⟨w.heap.size + 1, 1, none⟩ = some (.int .i64 0) := (kz.out.cell 1).trans rfl
  have f0 := kz.out.frozen 0
  have f1 := kz.out.frozen 1
  go_wp2
  exact bodyPost_ret (v := .tuple #[.agg #[.string s, .int .i64 (y - n)], .bool true]) (by simp [results, Tryz.results45, go_sem, d0, d1]) rfl ⟨rfl, Only.ext ((ext2 _ _ _).trans' HE8.out) (((Only.refl _ _).set_ 0 _).set_ 1 _) (by omega)⟩

set_option maxRecDepth 100000 in
set_option maxHeartbeats 2000000 in
theorem iSubAmountNo (s : ByteArray) (y n : Int) (w : World) (h0 : y.natAbs ≤ 1125899906842624) (h1 : n.natAbs ≤ 1125899906842624) (hp : y - n < 0) :
    Calls Tryz.prog 45 #[.agg #[.string s, .int .i64 y], .int .i64 n] w (RetE (.tuple #[.agg #[.string ⟨#[]⟩, .int .i64 0], .bool false]) w) := by
  have HY := Lib.hid (fun W : World => iCoin s y W (by unfold maxI; omega) (by unfold maxI; omega))
  have HN := Lib.hid (fun W : World => mNewInt n W (by unfold maxI; omega) (by unfold maxI; omega))
  have HBD := Lib.hid (show y.natAbs < B64 ∧ n.natAbs < B64 ∧ (y - n).natAbs < B64 ∧ -maxI ≤ y - n ∧ y - n ≤ maxI by unfold B64 maxI; omega)
  have HG := Lib.hid (show (sgn (y - n) == -1) = true by unfold sgn; rw [if_pos (by omega)]; rfl)
  have HP := Lib.hid hp
  have k0 := Lib.hid ((blk_new0 w 37 [.string s, .int .i64 y]).alloc (planBox ⟨#[]⟩ 0))
  have kC := Lib.hid (blk_new1 w (planBox s y) 37 [.string ⟨#[]⟩, .int .i64 0])
  clear h0 h1 hp
  have hfd : ∀ (b : Nat) (V : World), (Instr.field 81 (.agg #[.string s, .pointer (some ⟨b, 0, none⟩)]) 1).run Tryz.prog V = .ok (.agg #[.pointer (some ⟨b, 0, none⟩)]) V := fun _ _ => by kernel_rfl
  go_enter Tryz.func45, Tryz.ntmps45
  go_wp2_with (fail)
  go_at_call 83
  refine (HY.out _).mono ?_
  rintro e w1 ⟨b1, rfl, hB, hE⟩
  have HB1 := Lib.hid hB; have HE1 := Lib.hid hE; clear hB hE
  go_wp2_with (fail)
  go_at_call 93
  refine (HN.out _).mono ?_
  rintro e w2 ⟨b2, rfl, hB, hE⟩
  have HB2 := Lib.hid hB; have HE2 := Lib.hid (HE1.out.trans' hE); have HB12 := Lib.hid (HB1.out.ext hE); clear hB hE
  go_wp2_with (fail)
  go_at_call 94
  refine (mSub b1 b2 y n _ HB12.out HB2.out HBD.out.1 HBD.out.2.1 HBD.out.2.2.1).mono ?_
  rintro e w3 ⟨b3, rfl, hB, hE⟩
  have HB3 := Lib.hid hB; have HE3 := Lib.hid (HE2.out.trans' hE); clear hB hE
  go_wp2_with (fail)
  go_at_call 95
  refine (mIsNegative b3 (y - n) _ HB3.out).mono ?_
  rw [HG.out]
  rintro e w4 ⟨rfl, hE⟩
  have HE4 := Lib.hid (HE3.out.trans' hE); clear hE
  have kz := Lib.hid (kC.out.ext HE4.out)
  have d0 : w4.cell? ⟨w.heap.size + 1, 0, none⟩ = some (.string ⟨#[]⟩) := (kz.out.cell 0).trans rfl
  have d1 : w4.cell? ⟨w.heap.size + 1, 1, none⟩ = some (.int .i64 0) := (kz.out.cell 1).trans rfl
  have f0 := kz.out.frozen 0
  have f1 := kz.out.frozen 1
  go_wp2
  exact bodyPost_ret (v := .tuple #[.agg #[.string ⟨#[]⟩, .int .i64 0], .bool false]) (by simp [results, Tryz.results45, go_sem, d0, d1]) rfl ⟨rfl, Only.ext ((ext2 _ _ _).trans' HE4.out) (((Only.refl _ _).set_ 0 _).set_ 1 _) (by omega)⟩
end Go.Proofs.YtagfbefgcijegaaGreatDoor
