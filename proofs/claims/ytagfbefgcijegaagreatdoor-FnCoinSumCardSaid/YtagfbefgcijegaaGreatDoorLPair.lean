/-
  The walk of the law FnCoinPair: it returns true.
-/
import Derived.Test.YtagfbefgcijegaaGreatDoorOneC
import Derived.Test.YtagfbefgcijegaaGreatDoorGE
import Derived.Test.YtagfbefgcijegaaGreatDoorGF
import Derived.BigQuiet
import Derived.Deep.QuietTactic
namespace Go.Proofs.YtagfbefgcijegaaGreatDoor
open Go Go.RowKit

theorem plainAt_two (W : World) (s t : ByteArray) (y z : Int) (T : TypeId) : PlainAt (W.alloc (.cells #[.string s, .int .i64 y, .string t, .int .i64 z] T)) (some ⟨W.heap.size, 0, none⟩) [(s, y), (t, z)] := fun _ => by
  have k := blk_new0 W T [.string s, .int .i64 y, .string t, .int .i64 z]
  refine ⟨_, 0, rfl, fun j hj => ?_⟩
  have hj2 : j < 2 := by simpa using hj
  rcases (show j = 0 ∨ j = 1 by omega) with rfl | rfl
  · exact ⟨(k.cell 0).trans rfl, (k.cell 1).trans rfl⟩
  · exact ⟨(k.cell 2).trans rfl, (k.cell 3).trans rfl⟩
theorem fits_two {s t : ByteArray} {y z : Int} (h1 : s.size ≤ 2147483647) (h2 : t.size ≤ 2147483647) : Fits 2 [(s, y), (t, z)] := ⟨by omega, by
  intro x hx
  simp only [List.mem_cons, List.not_mem_nil, or_false] at hx
  rcases hx with rfl | rfl
  · exact h1
  · exact h2⟩
theorem two_bounds {s t : ByteArray} {y z : Int} (h : listB [(s, y), (t, z)] = true) : (-1099511627776 ≤ y ∧ y ≤ 1099511627776) ∧ (-1099511627776 ≤ z ∧ z ≤ 1099511627776) :=
  ⟨(listB_mem h (s, y) (by simp)).2, (listB_mem h (t, z) (by simp)).2⟩

set_option maxRecDepth 100000 in
set_option maxHeartbeats 4000000 in
theorem lawPair (s0 : ByteArray) (z0 : Int) (s1 : ByteArray) (z1 : Int) (w : World) (_h0 : (Lit.int .i64 z0).wf = true) (_h1 : (Lit.int .i64 z1).wf = true) :
    Calls Tryz.prog 7 #[.agg #[.string s0, .int .i64 z0], .agg #[.string s1, .int .i64 z1]] w (RetE (.bool true) w) := by
  obtain ⟨W, hW⟩ : ∃ W, W = (w.alloc (.cells #[.string s0, .int .i64 z0] 43)).alloc (.cells #[.string s1, .int .i64 z1] 43) := ⟨_, rfl⟩
  have K0 := Lib.hid (show Blk W w.heap.size 43 [.string s0, .int .i64 z0] by rw [hW]; exact (blk_new0 w 43 [.string s0, .int .i64 z0]).alloc _)
  have K1 := Lib.hid (show Blk W (w.heap.size + 1) 43 [.string s1, .int .i64 z1] by rw [hW]; exact blk_new1 w _ 43 [.string s1, .int .i64 z1])
  have EW := Lib.hid (show Ext w W by rw [hW]; exact ext2 _ _ _)
  have HWW := Lib.hid hW; clear hW
  go_enter Tryz.func7, Tryz.ntmps7
  go_wp2_with (fail)
  go_at_call 37
  rw [← HWW.out]
  refine (zFits1 s0 z0 _).mono ?_
  obtain ⟨b1, hb1⟩ : ∃ b, b = decide (s0.size ≤ 2147483647) := ⟨_, rfl⟩
  rw [← hb1]
  have HB1 := Lib.hid hb1; clear hb1
  rintro e w1 ⟨rfl, hE⟩
  have HE1 := Lib.hid hE; clear hE
  cases b1
  · go_wp2
    go_ret
    exact ⟨rfl, EW.out.trans' HE1.out⟩
  have k1 := K1.out.ext HE1.out
  have c10 : w1.cell? ⟨w.heap.size + 1, 0, none⟩ = some (.string s1) := (k1.cell 0).trans rfl
  have c11 : w1.cell? ⟨w.heap.size + 1, 1, none⟩ = some (.int .i64 z1) := (k1.cell 1).trans rfl
  clear k1
  go_wp2_with (fail)
  go_at_call 37
  refine (zFits1 s1 z1 _).mono ?_
  obtain ⟨b2, hb2⟩ : ∃ b, b = decide (s1.size ≤ 2147483647) := ⟨_, rfl⟩
  rw [← hb2]
  have HB2 := Lib.hid hb2; clear hb2
  rintro e w2 ⟨rfl, hE⟩
  have HE2 := Lib.hid (HE1.out.trans' hE); clear hE c10 c11
  cases b2
  · go_wp2
    go_ret
    exact ⟨rfl, EW.out.trans' HE2.out⟩
  have k0 := K0.out.ext HE2.out
  have k1 := K1.out.ext HE2.out
  have c00 : w2.cell? ⟨w.heap.size, 0, none⟩ = some (.string s0) := (k0.cell 0).trans rfl
  have c01 : w2.cell? ⟨w.heap.size, 1, none⟩ = some (.int .i64 z0) := (k0.cell 1).trans rfl
  have c10 : w2.cell? ⟨w.heap.size + 1, 0, none⟩ = some (.string s1) := (k1.cell 0).trans rfl
  have c11 : w2.cell? ⟨w.heap.size + 1, 1, none⟩ = some (.int .i64 z1) := (k1.cell 1).trans rfl
  clear k0 k1
  go_wp2_with (fail)
  go_at_call 20
  refine (sIsSumList (some ⟨w2.heap.size, 0, none⟩) 2 2 [(s0, z0), (s1, z1)] _ rfl (fits_two (of_decide_eq_true HB1.out.symm) (of_decide_eq_true HB2.out.symm)) (plainAt_two _ _ _ _ _ _)).mono ?_
  obtain ⟨b3, hb3⟩ : ∃ b, b = listB [(s0, z0), (s1, z1)] := ⟨_, rfl⟩
  rw [← hb3]
  have HB3 := Lib.hid hb3; clear hb3
  rintro e w3 ⟨rfl, hE⟩
  have HE3 := Lib.hid ((HE2.out.trans' (ext1 _ _)).trans' hE); clear hE c00 c01 c10 c11
  cases b3
  · go_wp2
    go_ret
    exact ⟨rfl, EW.out.trans' HE3.out⟩
  have HBD := Lib.hid (two_bounds HB3.out.symm)
  have k0 := K0.out.ext HE3.out
  have k1 := K1.out.ext HE3.out
  have c00 : w3.cell? ⟨w.heap.size, 0, none⟩ = some (.string s0) := (k0.cell 0).trans rfl
  have c01 : w3.cell? ⟨w.heap.size, 1, none⟩ = some (.int .i64 z0) := (k0.cell 1).trans rfl
  have c10 : w3.cell? ⟨w.heap.size + 1, 0, none⟩ = some (.string s1) := (k1.cell 0).trans rfl
  have c11 : w3.cell? ⟨w.heap.size + 1, 1, none⟩ = some (.int .i64 z1) := (k1.cell 1).trans rfl
  clear k0 k1
  by_cases hst : s0 = s1
  · subst hst
    obtain ⟨r0, hr0⟩ : ∃ r, r = decide (z1 < z0) := ⟨_, rfl⟩
    obtain ⟨r1, hr1⟩ : ∃ r, r = decide (z1 ≤ z0) := ⟨_, rfl⟩
    obtain ⟨r2, hr2⟩ : ∃ r, r = decide (z0 < z1) := ⟨_, rfl⟩
    obtain ⟨r3, hr3⟩ : ∃ r, r = decide (z0 ≤ z1) := ⟨_, rfl⟩
    obtain ⟨r4, hr4⟩ : ∃ r, r = (z0 == z1) := ⟨_, rfl⟩
    have HC := Lib.hid (fun V : World => iCompareOne_same s0 z0 z1 V (by have := HBD.out; omega) (by have := HBD.out; omega) r0 r1 r2 r3 r4 hr0 (by rw [hr1]; by_cases h : z0 < z1 <;> simp [h] <;> omega) hr2 (by rw [hr3]; by_cases h : z1 < z0 <;> simp [h] <;> omega) (by rw [hr4, coinEq_eq, Bool.eq_iff_iff]; simp))
    have e0 := hr0.symm; have e1 := hr1.symm; have e2 := hr2.symm; have e3 := hr3.symm; have e4 := hr4.symm
    clear hr0 hr1 hr2 hr3 hr4
    go_wp2_with (fail)
    go_at_call 38
    refine (HC.out _).mono ?_
    rintro e w4 ⟨rfl, hE⟩
    have HE4 := Lib.hid (HE3.out.trans' hE)
    have k0 := K0.out.ext HE4.out
    have k1 := K1.out.ext HE4.out
    clear hE c00 c01 c10 c11
    have c00 : w4.cell? ⟨w.heap.size, 0, none⟩ = some (.string s0) := (k0.cell 0).trans rfl
    have c01 : w4.cell? ⟨w.heap.size, 1, none⟩ = some (.int .i64 z0) := (k0.cell 1).trans rfl
    have c10 : w4.cell? ⟨w.heap.size + 1, 0, none⟩ = some (.string s0) := (k1.cell 0).trans rfl
    have c11 : w4.cell? ⟨w.heap.size + 1, 1, none⟩ = some (.int .i64 z1) := (k1.cell 1).trans rfl
    have a00 : ∀ o : Obj, (w4.alloc o).cell? ⟨w.heap.size, 0, none⟩ = some (.string s0) := fun o => ((k0.alloc o).cell 0).trans rfl
    have a01 : ∀ o : Obj, (w4.alloc o).cell? ⟨w.heap.size, 1, none⟩ = some (.int .i64 z0) := fun o => ((k0.alloc o).cell 1).trans rfl
    have a10 : ∀ o : Obj, (w4.alloc o).cell? ⟨w.heap.size + 1, 0, none⟩ = some (.string s0) := fun o => ((k1.alloc o).cell 0).trans rfl
    have a11 : ∀ o : Obj, (w4.alloc o).cell? ⟨w.heap.size + 1, 1, none⟩ = some (.int .i64 z1) := fun o => ((k1.alloc o).cell 1).trans rfl
    clear k0 k1
    go_wp2_with (fail)
    go_quiet (fail)
    go_wp2_with (fail)
    go_at_call 24
    refine (sumAwake _).mono ?_
    rintro e w9 ⟨rfl, hE⟩
    have HE9 := Lib.hid hE; clear hE
    go_wp2
    go_ret
    exact ⟨rfl, (((EW.out.trans' HE4.out).trans' (ext1 _ _)).trans' (Ext.drewN' _ _)).trans' HE9.out⟩
  · have hne : (s0.toList == s1.toList) = false := by rw [key_beq]; simpa using hst
    have HC := Lib.hid (fun V : World => iCompareOne_other s0 s1 z0 z1 V (by have := HBD.out; omega) (by have := HBD.out; omega) hst false (by rw [coinEq_eq]; simp [hst]))
    clear hst
    go_wp2_with (fail)
    go_at_call 38
    refine (HC.out _).mono ?_
    rintro e w4 ⟨rfl, hE⟩
    have HE4 := Lib.hid (HE3.out.trans' hE)
    have k0 := K0.out.ext HE4.out
    have k1 := K1.out.ext HE4.out
    clear hE c00 c01 c10 c11
    have c00 : w4.cell? ⟨w.heap.size, 0, none⟩ = some (.string s0) := (k0.cell 0).trans rfl
    have c10 : w4.cell? ⟨w.heap.size + 1, 0, none⟩ = some (.string s1) := (k1.cell 0).trans rfl
    have a00 : ∀ o : Obj, (w4.alloc o).cell? ⟨w.heap.size, 0, none⟩ = some (.string s0) := fun o => ((k0.alloc o).cell 0).trans rfl
    have a01 : ∀ o : Obj, (w4.alloc o).cell? ⟨w.heap.size, 1, none⟩ = some (.int .i64 z0) := fun o => ((k0.alloc o).cell 1).trans rfl
    have a10 : ∀ o : Obj, (w4.alloc o).cell? ⟨w.heap.size + 1, 0, none⟩ = some (.string s1) := fun o => ((k1.alloc o).cell 0).trans rfl
    have a11 : ∀ o : Obj, (w4.alloc o).cell? ⟨w.heap.size + 1, 1, none⟩ = some (.int .i64 z1) := fun o => ((k1.alloc o).cell 1).trans rfl
    clear k0 k1
    go_wp2_with (fail)
    go_at_call 24
    refine (sumAwake _).mono ?_
    rintro e w9 ⟨rfl, hE⟩
    have HE9 := Lib.hid hE; clear hE
    go_wp2
    go_ret
    exact ⟨rfl, ((EW.out.trans' HE4.out).trans' (ext1 _ _)).trans' HE9.out⟩
end Go.Proofs.YtagfbefgcijegaaGreatDoor
