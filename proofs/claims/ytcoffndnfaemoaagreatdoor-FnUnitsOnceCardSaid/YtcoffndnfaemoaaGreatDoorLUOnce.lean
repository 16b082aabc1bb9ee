/-
  The walk of the law FnUnitsOnce: it returns true.
-/
import Derived.Test.YtcoffndnfaemoaaGreatDoorHQ
import Derived.Test.YtcoffndnfaemoaaGreatDoorGT
namespace Go.Proofs.YtcoffndnfaemoaaGreatDoor
open Go Go.RowKit

set_option maxRecDepth 100000 in
theorem dnEqual99 (a0 a1 a2 a3 b0 b1 b2 b3 : Int) (w : World) : (Op.equalIn 9999 37 (.agg #[.int .u64 a0, .int .u64 a1, .int .u64 a2, .int .u64 a3]) (.agg #[.int .u64 b0, .int .u64 b1, .int .u64 b2, .int .u64 b3])).run Tryz.prog w = .ok (a0 == b0 && (a1 == b1 && (a2 == b2 && a3 == b3))) w := by
  have u3 := Tryz.underlying35
  have ag3 := Tryz.isAgg35
  have z3 := Tryz.sizeOf35
  rw [show (9999 : Nat) = 9998 + 1 from rfl, Op.equalIn]
  simp only [Sem.run_bind, run_underlying Tryz.underlying37, Result.andThen_ok]
  simp only [Std.Legacy.Range.forIn_eq_forIn_range', Std.Legacy.Range.size, Nat.sub_zero, Nat.add_sub_cancel, Nat.div_one, List.range'_succ, List.range'_zero, List.forIn_cons, List.forIn_nil]
  go_simp
  by_cases h0 : a0 = b0 <;> by_cases h1 : a1 = b1 <;> by_cases h2 : a2 = b2 <;> by_cases h3 : a3 = b3 <;> simp [h0, h1, h2, h3]
def onceSteps (d : ByteArray) (xa ya xb yb : Int) : List St := [St.plain 1 d 0 0, St.plain 0 d xa ya, St.plain 0 d xb yb, St.plain 1 d 0 0]
theorem onceAns {d : ByteArray} {xa ya xb yb : Int} (hd : denomB d = true) (ha : 0 < decV xa ya) (hb : 0 < decV xb yb) :
    Rg.answers ⟨[], ⟨#[]⟩⟩ (onceSteps d xa ya xb yb) = [⟨false, ⟨#[]⟩, 0, 0⟩, ⟨true, ⟨#[]⟩, 0, 0⟩, ⟨false, ⟨#[]⟩, 0, 0⟩, ⟨true, ⟨#[]⟩, Int.tdiv (decV xa ya) T18, Int.tmod (decV xa ya) T18⟩] := by
  simp [onceSteps, Rg.answers, Rg.step, St.plain, Rg.unit, Rg.reg, unitOf, hd, ha, hb]
theorem rateB_dec {y z : Int} (h : rateB y z = true) : DecB y z := by
  unfold rateB at h
  exact decisB_iff (by simpa using (Bool.and_eq_true _ _ ▸ h).1)
theorem onceOk {d : ByteArray} {xa ya xb yb : Int} (hs : d.size ≤ maxLen) (ha : DecB xa ya) (hb : DecB xb yb) : ∀ s ∈ onceSteps d xa ya xb yb, OkSt s := by
  have h0 : DecB 0 0 := by unfold DecB; omega
  intro s h
  simp only [onceSteps, List.mem_cons, List.not_mem_nil, or_false] at h
  rcases h with rfl | rfl | rfl | rfl
  · exact ⟨Or.inr (Or.inl rfl), h0, hs⟩
  · exact ⟨Or.inl rfl, ha, hs⟩
  · exact ⟨Or.inl rfl, hb, hs⟩
  · exact ⟨Or.inr (Or.inl rfl), h0, hs⟩
theorem parts_back (z : Int) : decV (Int.tdiv z T18) (Int.tmod z T18) = z := by
  unfold decV
  rw [Int.mul_comm]; exact Int.mul_tdiv_add_tmod z T18
theorem parts_bound {z : Int} (h : FitT z) : (-9223372036854775808 ≤ Int.tdiv z T18 ∧ Int.tdiv z T18 ≤ 9223372036854775807) ∧ -1000000000000000000 < Int.tmod z T18 ∧ Int.tmod z T18 < 1000000000000000000 := by
  have h1 := tdiv_b h
  have h2 : (Int.tmod z T18).natAbs = z.natAbs % 1000000000000000000 := by rw [Int.natAbs_tmod]; rfl
  unfold maxI at h1
  omega

set_option maxRecDepth 100000 in
set_option maxHeartbeats 4000000 in
theorem lawUOnce (d : ByteArray) (xa ya xb yb : Int) (w : World) (hT : Thr w) :
    Calls Tryz.prog 6 #[.string d, .agg #[.int .i64 xa, .int .i64 ya], .agg #[.int .i64 xb, .int .i64 yb]] w (RetE (.bool true) w) := by
  obtain ⟨W, hW⟩ : ∃ W, W = (w.alloc (.cells #[.int .i64 xa, .int .i64 ya] 24)).alloc (.cells #[.int .i64 xb, .int .i64 yb] 24) := ⟨_, rfl⟩
  have K0 := Lib.hid (show Blk W w.heap.size 24 [.int .i64 xa, .int .i64 ya] by rw [hW]; exact (blk_new0 w 24 [.int .i64 xa, .int .i64 ya]).alloc _)
  have K1 := Lib.hid (show Blk W (w.heap.size + 1) 24 [.int .i64 xb, .int .i64 yb] by rw [hW]; exact blk_new1 w _ 24 [.int .i64 xb, .int .i64 yb])
  have EW := Lib.hid (show Ext w W by rw [hW]; exact ext2 _ _ _)
  have TW := Lib.hid (show Thr W from hT.ext EW.out)
  have HWW := Lib.hid hW; clear hW hT
  by_cases h1 : 2147483647 < d.size
  · have d1 : (2147483647 : Int) < (d.size : Int) := by omega
    clear h1
    go_enter Tryz.func6, Tryz.ntmps6
    go_wp2
    go_ret
    rw [← HWW.out]
    exact ⟨rfl, EW.out⟩
  have d1 : (d.size : Int) ≤ 2147483647 := by omega
  by_cases h2 : 128 < d.size
  · have d2 : (128 : Int) < (d.size : Int) := by omega
    clear h1 h2
    go_enter Tryz.func6, Tryz.ntmps6
    go_wp2_with (fail)
    go_at_call 24
    rw [← HWW.out]
    refine (rateAwake _ TW.out).mono ?_
    rintro e w1 ⟨rfl, hE⟩
    have HE := Lib.hid (EW.out.trans' hE); clear hE
    go_wp2
    go_ret
    exact ⟨rfl, HE.out⟩
  have d2 : (d.size : Int) ≤ 128 := by omega
  have HSZ := Lib.hid (show d.size ≤ maxLen by unfold maxLen; omega)
  have H1 := Lib.hid (fun W => sDeDenom d W (by omega))
  clear h1 h2
  obtain ⟨b, hb⟩ : ∃ b, b = denomB d := ⟨_, rfl⟩
  rw [← hb] at H1
  have HDN := Lib.hid hb; clear hb
  go_enter Tryz.func6, Tryz.ntmps6
  go_wp2_with (fail)
  go_at_call 29
  rw [← HWW.out]
  refine (H1.out _).mono ?_
  rintro e w1 ⟨rfl, h1⟩
  obtain rfl := h1.symm
  cases b
  · have HE0 := Lib.hid (Ext.refl W)
    clear H1
    go_wp2_with (fail)
    go_at_call 24
    refine (rateAwake _ (TW.out.ext HE0.out)).mono ?_
    rintro e w9 ⟨rfl, hE⟩
    have HE9 := Lib.hid (EW.out.trans' ((HE0.out : Ext W _).trans' hE)); clear hE
    go_wp2
    go_ret
    exact ⟨rfl, HE9.out⟩
  have hab := rateB_dec (y := xa) (z := ya); have hbb := rateB_dec (y := xb) (z := yb)
  obtain ⟨ba, hba⟩ : ∃ ba, ba = rateB xa ya := ⟨_, rfl⟩
  obtain ⟨bb, hbb2⟩ : ∃ bb, bb = rateB xb yb := ⟨_, rfl⟩
  have HRA := Lib.hid (lRateIs xa ya); have HRB := Lib.hid (lRateIs xb yb)
  rw [← hba] at hab HRA
  rw [← hbb2] at hbb HRB
  have HAB := Lib.hid hab; have HBB := Lib.hid hbb
  clear hba hbb2 hab hbb
  obtain ⟨a0, a1, la⟩ := regCells K0.out
  go_wp2_with (fail)
  go_at_call 26
  refine (HRA.out _).mono ?_
  rintro e w1 ⟨rfl, hE⟩
  have HE1 := Lib.hid hE; clear hE a0 a1 la
  cases ba
  · skip
    go_wp2_with (fail)
    go_at_call 24
    refine (rateAwake _ (TW.out.ext HE1.out)).mono ?_
    rintro e w9 ⟨rfl, hE⟩
    have HE9 := Lib.hid (EW.out.trans' ((HE1.out : Ext W _).trans' hE)); clear hE
    go_wp2
    go_ret
    exact ⟨rfl, HE9.out⟩
  obtain ⟨a0, a1, la⟩ := regCells (K1.out.ext HE1.out)
  go_wp2_with (fail)
  go_at_call 26
  refine (HRB.out _).mono ?_
  rintro e w2 ⟨rfl, hE⟩
  have HE2 := Lib.hid (HE1.out.trans' hE); clear hE a0 a1 la
  cases bb
  · skip
    go_wp2_with (fail)
    go_at_call 24
    refine (rateAwake _ (TW.out.ext HE2.out)).mono ?_
    rintro e w9 ⟨rfl, hE⟩
    have HE9 := Lib.hid (EW.out.trans' ((HE2.out : Ext W _).trans' hE)); clear hE
    go_wp2
    go_ret
    exact ⟨rfl, HE9.out⟩
  have HDA := Lib.hid (show DecB xa ya by first | exact HAB.out rfl | exact HAB.out trivial); have HDB := Lib.hid (show DecB xb yb by first | exact HBB.out rfl | exact HBB.out trivial)
  obtain ⟨za, hza⟩ : ∃ z, z = decV xa ya := ⟨_, rfl⟩
  obtain ⟨zb, hzb⟩ : ∃ z, z = decV xb yb := ⟨_, rfl⟩
  have HOA := Lib.hid (fun W => sOf xa ya W HDA.out); have HOB := Lib.hid (fun W => sOf xb yb W HDB.out)
  rw [← hza] at HOA
  rw [← hzb] at HOB
  have HA4 := Lib.hid (show za.natAbs < B64 ^ 4 by rw [hza]; have := decB_abs HDA.out; have := b64_24; unfold decV; omega)
  have HB4 := Lib.hid (show zb.natAbs < B64 ^ 4 by rw [hzb]; have := decB_abs HDB.out; have := b64_24; unfold decV; omega)
  have HZA := Lib.hid hza; have HZB := Lib.hid hzb
  have HSA := Lib.hid (fun W => sSign za W HA4.out); have HSB := Lib.hid (fun W => sSign zb W HB4.out)
  clear hza hzb HAB HBB HRA HRB H1
  obtain ⟨a0, a1, la⟩ := regCells (K0.out.ext HE2.out)
  go_wp2_with (fail)
  go_at_call 20
  refine (HOA.out _).mono ?_
  rintro e w3 ⟨rfl, hE⟩
  have HE3 := Lib.hid (HE2.out.trans' hE); clear hE a0 a1 la
  go_wp2_with (fail)
  go_at_call 22
  refine (HSA.out _).mono ?_
  obtain ⟨sa, hsa⟩ : ∃ s, s = sgn za := ⟨_, rfl⟩
  rw [← hsa]
  rintro e w4 ⟨rfl, hE⟩
  have HE4 := Lib.hid (HE3.out.trans' hE); clear hE
  by_cases hpa : 0 < za
  rotate_left
  · have hle : sa ≤ 0 := by rw [hsa]; unfold sgn; split <;> (try split) <;> omega
    clear hsa
    go_wp2_with (fail)
    go_at_call 24
    refine (rateAwake _ (TW.out.ext HE4.out)).mono ?_
    rintro e w9 ⟨rfl, hE⟩
    have HE9 := Lib.hid (EW.out.trans' ((HE4.out : Ext W _).trans' hE)); clear hE
    go_wp2
    go_ret
    exact ⟨rfl, HE9.out⟩
  obtain rfl : sa = 1 := by rw [hsa]; unfold sgn; rw [if_neg (by omega), if_pos hpa]
  have HPA := Lib.hid hpa
  clear hsa hpa
  obtain ⟨a0, a1, la⟩ := regCells (K1.out.ext HE4.out)
  go_wp2_with (fail)
  go_at_call 20
  refine (HOB.out _).mono ?_
  rintro e w5 ⟨rfl, hE⟩
  have HE5 := Lib.hid (HE4.out.trans' hE); clear hE a0 a1 la
  go_wp2_with (fail)
  go_at_call 22
  refine (HSB.out _).mono ?_
  obtain ⟨sb, hsb⟩ : ∃ s, s = sgn zb := ⟨_, rfl⟩
  rw [← hsb]
  rintro e w6 ⟨rfl, hE⟩
  have HE6 := Lib.hid (HE5.out.trans' hE); clear hE
  by_cases hpb : 0 < zb
  rotate_left
  · have hle : sb ≤ 0 := by rw [hsb]; unfold sgn; split <;> (try split) <;> omega
    clear hsb
    go_wp2_with (fail)
    go_at_call 24
    refine (rateAwake _ (TW.out.ext HE6.out)).mono ?_
    rintro e w9 ⟨rfl, hE⟩
    have HE9 := Lib.hid (EW.out.trans' ((HE6.out : Ext W _).trans' hE)); clear hE
    go_wp2
    go_ret
    exact ⟨rfl, HE9.out⟩
  obtain rfl : sb = 1 := by rw [hsb]; unfold sgn; rw [if_neg (by omega), if_pos hpb]
  have HPB := Lib.hid hpb
  clear hsb hpb
  obtain ⟨a0, a1, la⟩ := regCells (K0.out.ext HE6.out)
  obtain ⟨b0, b1, lb⟩ := regCells (K1.out.ext HE6.out)
  obtain ⟨X, hX⟩ : ∃ X : Obj, X = .cells (flat10 St.cells (onceSteps d xa ya xb yb)).toArray 50 := ⟨_, rfl⟩
  have HX := Lib.hid hX
  have hs := steps_new w6 (onceSteps d xa ya xb yb) 50
  rw [← hX] at hs
  have H := Lib.hid (iUnits _ 4 4 (onceSteps d xa ya xb yb) _ rfl (by omega) hs (onceOk HSZ.out HDA.out HDB.out) (TW.out.ext (HE6.out.trans' (ext1 w6 X))))
  rw [onceAns HDN.out.symm (by rw [← HZA.out]; exact HPA.out) (by rw [← HZB.out]; exact HPB.out), ← HZA.out] at H
  clear hs hX
  go_wp2_with (fail)
  go_at_call 28
  have hX := HX.out
  simp only [onceSteps, flat10, St.plain, St.cells, List.flatMap_cons, List.flatMap_nil, List.cons_append, List.nil_append] at hX
  rw [← hX]
  refine H.out.mono ?_
  rintro e w7 ⟨v, rfl, ho, hE⟩
  obtain ⟨A, c, rfl, h4, _, hat⟩ := ten_slice An.cells_length ho (n := 4) rfl
  obtain ⟨g, o, rfl, hc⟩ := ans_get hat (by simp)
  obtain ⟨q, hq⟩ : ∃ q, q = Int.tdiv za T18 := ⟨_, rfl⟩
  obtain ⟨r, hr⟩ : ∃ r, r = Int.tmod za T18 := ⟨_, rfl⟩
  rw [← hq, ← hr] at hc
  obtain ⟨p0, -, -, -⟩ := hc 0 (by simp)
  obtain ⟨p1, -, -, -⟩ := hc 1 (by simp)
  obtain ⟨p2, -, -, -⟩ := hc 2 (by simp)
  obtain ⟨p3, -, p4, p5⟩ := hc 3 (by simp)
  simp only [List.getElem_cons_zero, List.getElem_cons_succ, Nat.zero_mul, Nat.add_zero, Nat.one_mul] at p0 p1 p2 p3 p4 p5
  have HE7 := Lib.hid (HE6.out.trans' ((ext1 w6 X).trans' hE))
  clear ho hE hat hc hX a0 a1 la b0 b1 lb
  obtain ⟨a0, a1, la⟩ := regCells (K0.out.ext HE7.out)
  have HFT := Lib.hid (show FitT za by rw [HZA.out]; exact reg_fit (by have := decB_abs HDA.out; have := HDA.out; unfold DecB at this; unfold decV T18; omega))
  have HOQ := Lib.hid (show ∀ W, Calls Tryz.prog 20 #[.int .i64 q, .int .i64 r] W (RetE (de za) W) from fun W => by
    have hb := parts_bound HFT.out
    have h := sOfW q r W (by rw [hq]; exact hb.1.1) (by rw [hq]; exact hb.1.2) (by rw [hr]; exact hb.2.1) (by rw [hr]; exact hb.2.2)
    rw [hq, hr, parts_back] at h
    rw [hq, hr]; exact h)
  clear hq hr
  obtain ⟨x0, x1, x2, x3, e0, e1, e2, e3, -⟩ := words_of za.natAbs
  have hde : de za = .agg #[.bool (decide (za < 0)), .int .u64 x0, .int .u64 x1, .int .u64 x2, .int .u64 x3] := by unfold de deV; rw [e0, e1, e2, e3]
  obtain ⟨bz, hbz⟩ : ∃ b, b = decide (za < 0) := ⟨_, rfl⟩
  rw [← hbz] at hde
  rw [hde] at HOQ HOA
  have heq := dnEqual99 x0 x1 x2 x3 x0 x1 x2 x3
  have HS := Lib.hid (show ∀ V, Ext w7 V → V.cell? ⟨g, o, none⟩ = some (.bool false) ∧ V.cell? ⟨g, o + 10, none⟩ = some (.bool true) ∧ V.cell? ⟨g, o + 20, none⟩ = some (.bool false) ∧ V.cell? ⟨g, o + 30, none⟩ = some (.bool true) ∧ V.cell? ⟨g, o + 32, none⟩ = some (.int .i64 q) ∧ V.cell? ⟨g, o + 33, none⟩ = some (.int .i64 r) ∧ V.cell? ⟨w.heap.size, 0, none⟩ = some (.int .i64 xa) ∧ V.cell? ⟨w.heap.size, 1, none⟩ = some (.int .i64 ya) from fun V e => ⟨e.cell' p0, e.cell' p1, e.cell' p2, e.cell' p3, e.cell' p4, e.cell' p5, e.cell' a0, e.cell' a1⟩)
  clear e0 e1 e2 e3 hde hbz
  have HR := Lib.hid (show Ext w7 w7.drew from Ext.drewN' w7 1)
  go_upto_region 6 with fail
  go_region_held3 (fun V => V.cell? ⟨g, o, none⟩ = some (.bool false) ∧ V.cell? ⟨g, o + 10, none⟩ = some (.bool true) ∧ V.cell? ⟨g, o + 20, none⟩ = some (.bool false) ∧ V.cell? ⟨g, o + 30, none⟩ = some (.bool true) ∧ V.cell? ⟨g, o + 32, none⟩ = some (.int .i64 q) ∧ V.cell? ⟨g, o + 33, none⟩ = some (.int .i64 r) ∧ V.cell? ⟨w.heap.size, 0, none⟩ = some (.int .i64 xa) ∧ V.cell? ⟨w.heap.size, 1, none⟩ = some (.int .i64 ya)) ((first | exact HS.out _ HR.out | exact HS.out _ HR8.out | exact HS.out _ HR9.out | exact HS.out _ HRX.out)) (first | (go_at_call 24; refine (rateAwake _ (TW.out.ext (HE7.out.trans' (Ext.drewN' _ 1)))).mono ?_; rintro e w8 ⟨rfl, hE⟩; have HR8 := Lib.hid (Ext.undrew hE); clear hE) | (go_at_call 20; (with_reducible refine (HOQ.out _).mono ?_); rintro e w9 ⟨rfl, hE⟩; have HR9 := Lib.hid (show Ext w7 w9 by first | exact HRX.out.trans' hE | exact HR8.out.trans' hE); clear hE) | (go_at_call 20; (with_reducible refine (HOA.out _).mono ?_); rintro e wx ⟨rfl, hE⟩; have HRX := Lib.hid (show Ext w7 wx by first | exact HR9.out.trans' hE | exact HR8.out.trans' hE); clear hE))
  all_goals (go_wp2_with fail)
  all_goals go_ret
  all_goals first | exact ⟨rfl, EW.out.trans' (HE7.out.trans' HRX.out)⟩ | exact ⟨rfl, EW.out.trans' (HE7.out.trans' HR9.out)⟩
end Go.Proofs.YtcoffndnfaemoaaGreatDoor
