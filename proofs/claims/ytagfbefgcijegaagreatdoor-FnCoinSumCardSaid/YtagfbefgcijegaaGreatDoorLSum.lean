/-
  The walk of the law FnCoinSum: it returns true.
-/
import Derived.Test.YtagfbefgcijegaaGreatDoorLPair
import Derived.Test.YtagfbefgcijegaaGreatDoorOneE
namespace Go.Proofs.YtagfbefgcijegaaGreatDoor
open Go Go.RowKit

set_option maxRecDepth 100000 in
set_option maxHeartbeats 8000000 in
theorem lawSum (s0 : ByteArray) (z0 : Int) (s1 : ByteArray) (z1 : Int) (n : Int) (w : World) (_h0 : (Lit.int .i64 z0).wf = true) (_h1 : (Lit.int .i64 z1).wf = true) (_hn : (Lit.int .i64 n).wf = true) :
    Calls Tryz.prog 9 #[.agg #[.string s0, .int .i64 z0], .agg #[.string s1, .int .i64 z1], .int .i64 n] w (RetE (.bool true) w) := by
  obtain ⟨W, hW⟩ : ∃ W, W = (w.alloc (.cells #[.string s0, .int .i64 z0] 43)).alloc (.cells #[.string s1, .int .i64 z1] 43) := ⟨_, rfl⟩
  have KA := Lib.hid (show Blk W w.heap.size 43 [.string s0, .int .i64 z0] by rw [hW]; exact (blk_new0 w 43 [.string s0, .int .i64 z0]).alloc _)
  have KB := Lib.hid (show Blk W (w.heap.size + 1) 43 [.string s1, .int .i64 z1] by rw [hW]; exact blk_new1 w _ 43 [.string s1, .int .i64 z1])
  have EW := Lib.hid (show Ext w W by rw [hW]; exact ext2 _ _ _)
  have HE0 := Lib.hid (Ext.refl W)
  have HWW := Lib.hid hW; clear hW
  go_enter Tryz.func9, Tryz.ntmps9
  go_wp2_with (fail)
  go_at_call 37
  rw [← HWW.out]
  refine (zFits1 s0 z0 _).mono ?_
  obtain ⟨b0, hb0⟩ : ∃ b, b = decide (s0.size ≤ 2147483647) := ⟨_, rfl⟩
  rw [← hb0]
  have HB0 := Lib.hid hb0; clear hb0
  rintro e w1 ⟨rfl, hE⟩
  have HD1 := Lib.hid (show Ext W w1 from hE)
  have KA_1 := Lib.hid (KA.out.ext HD1.out)
  have KB_1 := Lib.hid (KB.out.ext HD1.out)
  have HE1 := Lib.hid (HE0.out.trans' HD1.out)
  clear hE
  cases b0
  · go_wp2
    go_ret
    exact ⟨rfl, EW.out.trans' HE1.out⟩
  have cA0 : w1.cell? ⟨w.heap.size, 0, none⟩ = some (.string s0) := (KA_1.out.cell 0).trans rfl
  have cA1 : w1.cell? ⟨w.heap.size, 1, none⟩ = some (.int .i64 z0) := (KA_1.out.cell 1).trans rfl
  have cB0 : w1.cell? ⟨w.heap.size + 1, 0, none⟩ = some (.string s1) := (KB_1.out.cell 0).trans rfl
  have cB1 : w1.cell? ⟨w.heap.size + 1, 1, none⟩ = some (.int .i64 z1) := (KB_1.out.cell 1).trans rfl
  go_wp2_with (fail)
  go_at_call 37
  refine (zFits1 s1 z1 _).mono ?_
  obtain ⟨b1, hb1⟩ : ∃ b, b = decide (s1.size ≤ 2147483647) := ⟨_, rfl⟩
  rw [← hb1]
  have HB1 := Lib.hid hb1; clear hb1
  rintro e w2 ⟨rfl, hE⟩
  have HD2 := Lib.hid (show Ext w1 w2 from hE)
  have KA_2 := Lib.hid (KA_1.out.ext HD2.out)
  have KB_2 := Lib.hid (KB_1.out.ext HD2.out)
  have HE2 := Lib.hid (HE1.out.trans' HD2.out)
  clear hE cA0 cA1 cB0 cB1
  cases b1
  · go_wp2
    go_ret
    exact ⟨rfl, EW.out.trans' HE2.out⟩
  have cA0 : w2.cell? ⟨w.heap.size, 0, none⟩ = some (.string s0) := (KA_2.out.cell 0).trans rfl
  have cA1 : w2.cell? ⟨w.heap.size, 1, none⟩ = some (.int .i64 z0) := (KA_2.out.cell 1).trans rfl
  have cB0 : w2.cell? ⟨w.heap.size + 1, 0, none⟩ = some (.string s1) := (KB_2.out.cell 0).trans rfl
  have cB1 : w2.cell? ⟨w.heap.size + 1, 1, none⟩ = some (.int .i64 z1) := (KB_2.out.cell 1).trans rfl
  go_wp2_with (fail)
  go_at_call 20
  refine (sIsSumList (some ⟨w2.heap.size, 0, none⟩) 2 2 [(s0, z0), (s1, z1)] _ rfl (fits_two (of_decide_eq_true HB0.out.symm) (of_decide_eq_true HB1.out.symm)) (plainAt_two _ _ _ _ _ _)).mono ?_
  obtain ⟨b3, hb3⟩ : ∃ b, b = listB [(s0, z0), (s1, z1)] := ⟨_, rfl⟩
  rw [← hb3]
  have HB3 := Lib.hid hb3; clear hb3
  rintro e w3 ⟨rfl, hE⟩
  have HD3 := Lib.hid (show Ext w2 w3 from (ext1 _ _).trans' hE)
  have KA_3 := Lib.hid (KA_2.out.ext HD3.out)
  have KB_3 := Lib.hid (KB_2.out.ext HD3.out)
  have KL_3 := Lib.hid ((blk_new0 w2 43 [.string s0, .int .i64 z0, .string s1, .int .i64 z1]).ext hE)
  have HE3 := Lib.hid (HE2.out.trans' HD3.out)
  clear hE cA0 cA1 cB0 cB1
  cases b3
  · go_wp2
    go_ret
    exact ⟨rfl, EW.out.trans' HE3.out⟩
  have HBD := Lib.hid (two_bounds HB3.out.symm)
  have cA0 : w3.cell? ⟨w.heap.size, 0, none⟩ = some (.string s0) := (KA_3.out.cell 0).trans rfl
  have cA1 : w3.cell? ⟨w.heap.size, 1, none⟩ = some (.int .i64 z0) := (KA_3.out.cell 1).trans rfl
  have cB0 : w3.cell? ⟨w.heap.size + 1, 0, none⟩ = some (.string s1) := (KB_3.out.cell 0).trans rfl
  have cB1 : w3.cell? ⟨w.heap.size + 1, 1, none⟩ = some (.int .i64 z1) := (KB_3.out.cell 1).trans rfl
  by_cases g0 : z0 < 0
  · have d0 : decide (z0 < 0) = true := by simpa using g0
    clear g0
    go_wp2
    go_ret
    exact ⟨rfl, EW.out.trans' HE3.out⟩
  have d0 : decide (z0 < 0) = false := by simpa using g0
  by_cases g1 : z1 < 0
  · have d1 : decide (z1 < 0) = true := by simpa using g1
    clear g1
    go_wp2
    go_ret
    exact ⟨rfl, EW.out.trans' HE3.out⟩
  have d1 : decide (z1 < 0) = false := by simpa using g1
  by_cases g2 : n < 0
  · have d2 : decide (n < 0) = true := by simpa using g2
    clear g2
    go_wp2
    go_ret
    exact ⟨rfl, EW.out.trans' HE3.out⟩
  have d2 : decide (n < 0) = false := by simpa using g2
  by_cases g3 : 1099511627776 < n
  · have d3 : decide (1099511627776 < n) = true := by simpa using g3
    clear g3
    go_wp2
    go_ret
    exact ⟨rfl, EW.out.trans' HE3.out⟩
  have d3 : decide (1099511627776 < n) = false := by simpa using g3
  have z0a : 0 ≤ z0 := by omega
  have z0b : z0 ≤ 1099511627776 := by have := HBD.out; omega
  have z1a : 0 ≤ z1 := by omega
  have z1b : z1 ≤ 1099511627776 := by have := HBD.out; omega
  have na : 0 ≤ n := by omega
  have nb : n ≤ 1099511627776 := by omega
  clear g0 g1 g2 g3
  by_cases hst : s0 = s1
  · subst hst
    have dd : (s0.toList == s0.toList) = true := by simp
    by_cases hge : z1 ≤ z0
    · have dg : decide (z1 ≤ z0) = true := by simpa using hge
      go_wp2_with (fail)
      go_at_call 42
      refine (iAddOne s0 z0 z1 _ (by omega) (by omega)).mono ?_
      rintro e w4 ⟨rfl, hE⟩
      have HD4 := Lib.hid (show Ext w3 w4 from hE)
      have KA_4 := Lib.hid (KA_3.out.ext HD4.out)
      have KB_4 := Lib.hid (KB_3.out.ext HD4.out)
      have HE4 := Lib.hid (HE3.out.trans' HD4.out)
      clear hE cA0 cA1 cB0 cB1
      have cA0 : w4.cell? ⟨w.heap.size, 0, none⟩ = some (.string s0) := (KA_4.out.cell 0).trans rfl
      have aA0 : ∀ o : Obj, (w4.alloc o).cell? ⟨w.heap.size, 0, none⟩ = some (.string s0) := fun o => ((KA_4.out.alloc o).cell 0).trans rfl
      have cA1 : w4.cell? ⟨w.heap.size, 1, none⟩ = some (.int .i64 z0) := (KA_4.out.cell 1).trans rfl
      have aA1 : ∀ o : Obj, (w4.alloc o).cell? ⟨w.heap.size, 1, none⟩ = some (.int .i64 z0) := fun o => ((KA_4.out.alloc o).cell 1).trans rfl
      have cB0 : w4.cell? ⟨w.heap.size + 1, 0, none⟩ = some (.string s0) := (KB_4.out.cell 0).trans rfl
      have aB0 : ∀ o : Obj, (w4.alloc o).cell? ⟨w.heap.size + 1, 0, none⟩ = some (.string s0) := fun o => ((KB_4.out.alloc o).cell 0).trans rfl
      have cB1 : w4.cell? ⟨w.heap.size + 1, 1, none⟩ = some (.int .i64 z1) := (KB_4.out.cell 1).trans rfl
      have aB1 : ∀ o : Obj, (w4.alloc o).cell? ⟨w.heap.size + 1, 1, none⟩ = some (.int .i64 z1) := fun o => ((KB_4.out.alloc o).cell 1).trans rfl
      go_wp2_with (fail)
      go_at_call 43
      refine (iSubOneYes s0 z0 z1 _ (by omega) (by omega) (by omega)).mono ?_
      rintro e w5 ⟨rfl, hE⟩
      have HD5 := Lib.hid (show Ext w4 w5 from (ext1 _ _).trans' hE)
      have KA_5 := Lib.hid (KA_4.out.ext HD5.out)
      have KB_5 := Lib.hid (KB_4.out.ext HD5.out)
      have KP_5 := Lib.hid ((blk_new0 w4 37 [.string s0, .int .i64 (z0 + z1)]).ext hE)
      have HE5 := Lib.hid (HE4.out.trans' HD5.out)
      clear hE cA0 aA0 cA1 aA1 cB0 aB0 cB1 aB1
      have cA0 : w5.cell? ⟨w.heap.size, 0, none⟩ = some (.string s0) := (KA_5.out.cell 0).trans rfl
      have aA0 : ∀ o : Obj, (w5.alloc o).cell? ⟨w.heap.size, 0, none⟩ = some (.string s0) := fun o => ((KA_5.out.alloc o).cell 0).trans rfl
      have cA1 : w5.cell? ⟨w.heap.size, 1, none⟩ = some (.int .i64 z0) := (KA_5.out.cell 1).trans rfl
      have aA1 : ∀ o : Obj, (w5.alloc o).cell? ⟨w.heap.size, 1, none⟩ = some (.int .i64 z0) := fun o => ((KA_5.out.alloc o).cell 1).trans rfl
      have cB0 : w5.cell? ⟨w.heap.size + 1, 0, none⟩ = some (.string s0) := (KB_5.out.cell 0).trans rfl
      have aB0 : ∀ o : Obj, (w5.alloc o).cell? ⟨w.heap.size + 1, 0, none⟩ = some (.string s0) := fun o => ((KB_5.out.alloc o).cell 0).trans rfl
      have cB1 : w5.cell? ⟨w.heap.size + 1, 1, none⟩ = some (.int .i64 z1) := (KB_5.out.cell 1).trans rfl
      have aB1 : ∀ o : Obj, (w5.alloc o).cell? ⟨w.heap.size + 1, 1, none⟩ = some (.int .i64 z1) := fun o => ((KB_5.out.alloc o).cell 1).trans rfl
      have cP0 : w5.cell? ⟨w4.heap.size, 0, none⟩ = some (.string s0) := (KP_5.out.cell 0).trans rfl
      have aP0 : ∀ o : Obj, (w5.alloc o).cell? ⟨w4.heap.size, 0, none⟩ = some (.string s0) := fun o => ((KP_5.out.alloc o).cell 0).trans rfl
      have cP1 : w5.cell? ⟨w4.heap.size, 1, none⟩ = some (.int .i64 (z0 + z1)) := (KP_5.out.cell 1).trans rfl
      have aP1 : ∀ o : Obj, (w5.alloc o).cell? ⟨w4.heap.size, 1, none⟩ = some (.int .i64 (z0 + z1)) := fun o => ((KP_5.out.alloc o).cell 1).trans rfl
      by_cases hmn : n ≤ z0
      · have dn : decide (n ≤ z0) = true := by simpa using hmn
        go_wp2_with (fail)
        go_at_call 44
        refine (iAddAmount s0 z0 n _ (by omega) (by omega)).mono ?_
        rintro e w6 ⟨rfl, hE⟩
        have HD6 := Lib.hid (show Ext w5 w6 from (ext1 _ _).trans' hE)
        have KA_6 := Lib.hid (KA_5.out.ext HD6.out)
        have KB_6 := Lib.hid (KB_5.out.ext HD6.out)
        have KP_6 := Lib.hid (KP_5.out.ext HD6.out)
        have KQ_6 := Lib.hid ((blk_new0 w5 37 [.string s0, .int .i64 (z0 - z1)]).ext hE)
        have HE6 := Lib.hid (HE5.out.trans' HD6.out)
        clear hE cA0 aA0 cA1 aA1 cB0 aB0 cB1 aB1 cP0 aP0 cP1 aP1
        have cA0 : w6.cell? ⟨w.heap.size, 0, none⟩ = some (.string s0) := (KA_6.out.cell 0).trans rfl
        have aA0 : ∀ o : Obj, (w6.alloc o).cell? ⟨w.heap.size, 0, none⟩ = some (.string s0) := fun o => ((KA_6.out.alloc o).cell 0).trans rfl
        have cA1 : w6.cell? ⟨w.heap.size, 1, none⟩ = some (.int .i64 z0) := (KA_6.out.cell 1).trans rfl
        have aA1 : ∀ o : Obj, (w6.alloc o).cell? ⟨w.heap.size, 1, none⟩ = some (.int .i64 z0) := fun o => ((KA_6.out.alloc o).cell 1).trans rfl
        have cB0 : w6.cell? ⟨w.heap.size + 1, 0, none⟩ = some (.string s0) := (KB_6.out.cell 0).trans rfl
        have aB0 : ∀ o : Obj, (w6.alloc o).cell? ⟨w.heap.size + 1, 0, none⟩ = some (.string s0) := fun o => ((KB_6.out.alloc o).cell 0).trans rfl
        have cB1 : w6.cell? ⟨w.heap.size + 1, 1, none⟩ = some (.int .i64 z1) := (KB_6.out.cell 1).trans rfl
        have aB1 : ∀ o : Obj, (w6.alloc o).cell? ⟨w.heap.size + 1, 1, none⟩ = some (.int .i64 z1) := fun o => ((KB_6.out.alloc o).cell 1).trans rfl
        have cP0 : w6.cell? ⟨w4.heap.size, 0, none⟩ = some (.string s0) := (KP_6.out.cell 0).trans rfl
        have aP0 : ∀ o : Obj, (w6.alloc o).cell? ⟨w4.heap.size, 0, none⟩ = some (.string s0) := fun o => ((KP_6.out.alloc o).cell 0).trans rfl
        have cP1 : w6.cell? ⟨w4.heap.size, 1, none⟩ = some (.int .i64 (z0 + z1)) := (KP_6.out.cell 1).trans rfl
        have aP1 : ∀ o : Obj, (w6.alloc o).cell? ⟨w4.heap.size, 1, none⟩ = some (.int .i64 (z0 + z1)) := fun o => ((KP_6.out.alloc o).cell 1).trans rfl
        have cQ0 : w6.cell? ⟨w5.heap.size, 0, none⟩ = some (.string s0) := (KQ_6.out.cell 0).trans rfl
        have aQ0 : ∀ o : Obj, (w6.alloc o).cell? ⟨w5.heap.size, 0, none⟩ = some (.string s0) := fun o => ((KQ_6.out.alloc o).cell 0).trans rfl
        have cQ1 : w6.cell? ⟨w5.heap.size, 1, none⟩ = some (.int .i64 (z0 - z1)) := (KQ_6.out.cell 1).trans rfl
        have aQ1 : ∀ o : Obj, (w6.alloc o).cell? ⟨w5.heap.size, 1, none⟩ = some (.int .i64 (z0 - z1)) := fun o => ((KQ_6.out.alloc o).cell 1).trans rfl
        go_wp2_with (fail)
        go_at_call 45
        refine (iSubAmountYes s0 z0 n _ (by omega) (by omega) (by omega)).mono ?_
        rintro e w7 ⟨rfl, hE⟩
        have HD7 := Lib.hid (show Ext w6 w7 from (ext1 _ _).trans' hE)
        have KA_7 := Lib.hid (KA_6.out.ext HD7.out)
        have KB_7 := Lib.hid (KB_6.out.ext HD7.out)
        have KP_7 := Lib.hid (KP_6.out.ext HD7.out)
        have KQ_7 := Lib.hid (KQ_6.out.ext HD7.out)
        have KZ_7 := Lib.hid ((blk_new0 w6 37 [.string s0, .int .i64 (z0 + n)]).ext hE)
        have HE7 := Lib.hid (HE6.out.trans' HD7.out)
        clear hE cA0 aA0 cA1 aA1 cB0 aB0 cB1 aB1 cP0 aP0 cP1 aP1 cQ0 aQ0 cQ1 aQ1
        have cA0 : w7.cell? ⟨w.heap.size, 0, none⟩ = some (.string s0) := (KA_7.out.cell 0).trans rfl
        have aA0 : ∀ o : Obj, (w7.alloc o).cell? ⟨w.heap.size, 0, none⟩ = some (.string s0) := fun o => ((KA_7.out.alloc o).cell 0).trans rfl
        have cA1 : w7.cell? ⟨w.heap.size, 1, none⟩ = some (.int .i64 z0) := (KA_7.out.cell 1).trans rfl
        have aA1 : ∀ o : Obj, (w7.alloc o).cell? ⟨w.heap.size, 1, none⟩ = some (.int .i64 z0) := fun o => ((KA_7.out.alloc o).cell 1).trans rfl
        have cB0 : w7.cell? ⟨w.heap.size + 1, 0, none⟩ = some (.string s0) := (KB_7.out.cell 0).trans rfl
        have aB0 : ∀ o : Obj, (w7.alloc o).cell? ⟨w.heap.size + 1, 0, none⟩ = some (.string s0) := fun o => ((KB_7.out.alloc o).cell 0).trans rfl
        have cB1 : w7.cell? ⟨w.heap.size + 1, 1, none⟩ = some (.int .i64 z1) := (KB_7.out.cell 1).trans rfl
        have aB1 : ∀ o : Obj, (w7.alloc o).cell? ⟨w.heap.size + 1, 1, none⟩ = some (.int .i64 z1) := fun o => ((KB_7.out.alloc o).cell 1).trans rfl
        have cP0 : w7.cell? ⟨w4.heap.size, 0, none⟩ = some (.string s0) := (KP_7.out.cell 0).trans rfl
        have aP0 : ∀ o : Obj, (w7.alloc o).cell? ⟨w4.heap.size, 0, none⟩ = some (.string s0) := fun o => ((KP_7.out.alloc o).cell 0).trans rfl
        have cP1 : w7.cell? ⟨w4.heap.size, 1, none⟩ = some (.int .i64 (z0 + z1)) := (KP_7.out.cell 1).trans rfl
        have aP1 : ∀ o : Obj, (w7.alloc o).cell? ⟨w4.heap.size, 1, none⟩ = some (.int .i64 (z0 + z1)) := fun o => ((KP_7.out.alloc o).cell 1).trans rfl
        have cQ0 : w7.cell? ⟨w5.heap.size, 0, none⟩ = some (.string s0) := (KQ_7.out.cell 0).trans rfl
        have aQ0 : ∀ o : Obj, (w7.alloc o).cell? ⟨w5.heap.size, 0, none⟩ = some (.string s0) := fun o => ((KQ_7.out.alloc o).cell 0).trans rfl
        have cQ1 : w7.cell? ⟨w5.heap.size, 1, none⟩ = some (.int .i64 (z0 - z1)) := (KQ_7.out.cell 1).trans rfl
        have aQ1 : ∀ o : Obj, (w7.alloc o).cell? ⟨w5.heap.size, 1, none⟩ = some (.int .i64 (z0 - z1)) := fun o => ((KQ_7.out.alloc o).cell 1).trans rfl
        have cZ0 : w7.cell? ⟨w6.heap.size, 0, none⟩ = some (.string s0) := (KZ_7.out.cell 0).trans rfl
        have aZ0 : ∀ o : Obj, (w7.alloc o).cell? ⟨w6.heap.size, 0, none⟩ = some (.string s0) := fun o => ((KZ_7.out.alloc o).cell 0).trans rfl
        have cZ1 : w7.cell? ⟨w6.heap.size, 1, none⟩ = some (.int .i64 (z0 + n)) := (KZ_7.out.cell 1).trans rfl
        have aZ1 : ∀ o : Obj, (w7.alloc o).cell? ⟨w6.heap.size, 1, none⟩ = some (.int .i64 (z0 + n)) := fun o => ((KZ_7.out.alloc o).cell 1).trans rfl
        go_wp2_with (fail)
        go_at_call 24
        refine (sumAwake _).mono ?_
        rintro e w8 ⟨rfl, hE⟩
        have HD8 := Lib.hid (show Ext w7 w8 from (ext1 _ _).trans' hE)
        have KA_8 := Lib.hid (KA_7.out.ext HD8.out)
        have KB_8 := Lib.hid (KB_7.out.ext HD8.out)
        have KP_8 := Lib.hid (KP_7.out.ext HD8.out)
        have KQ_8 := Lib.hid (KQ_7.out.ext HD8.out)
        have KZ_8 := Lib.hid (KZ_7.out.ext HD8.out)
        have KY_8 := Lib.hid ((blk_new0 w7 37 [.string s0, .int .i64 (z0 - n)]).ext hE)
        have HE8 := Lib.hid (HE7.out.trans' HD8.out)
        clear hE cA0 aA0 cA1 aA1 cB0 aB0 cB1 aB1 cP0 aP0 cP1 aP1 cQ0 aQ0 cQ1 aQ1 cZ0 aZ0 cZ1 aZ1
        go_wp2
        go_ret
        exact ⟨rfl, EW.out.trans' HE8.out⟩
      · have dn : decide (n ≤ z0) = false := by simpa using hmn
        go_wp2_with (fail)
        go_at_call 44
        refine (iAddAmount s0 z0 n _ (by omega) (by omega)).mono ?_
        rintro e w6 ⟨rfl, hE⟩
        have HD6 := Lib.hid (show Ext w5 w6 from (ext1 _ _).trans' hE)
        have KA_6 := Lib.hid (KA_5.out.ext HD6.out)
        have KB_6 := Lib.hid (KB_5.out.ext HD6.out)
        have KP_6 := Lib.hid (KP_5.out.ext HD6.out)
        have KQ_6 := Lib.hid ((blk_new0 w5 37 [.string s0, .int .i64 (z0 - z1)]).ext hE)
        have HE6 := Lib.hid (HE5.out.trans' HD6.out)
        clear hE cA0 aA0 cA1 aA1 cB0 aB0 cB1 aB1 cP0 aP0 cP1 aP1
        have cA0 : w6.cell? ⟨w.heap.size, 0, none⟩ = some (.string s0) := (KA_6.out.cell 0).trans rfl
        have aA0 : ∀ o : Obj, (w6.alloc o).cell? ⟨w.heap.size, 0, none⟩ = some (.string s0) := fun o => ((KA_6.out.alloc o).cell 0).trans rfl
        have cA1 : w6.cell? ⟨w.heap.size, 1, none⟩ = some (.int .i64 z0) := (KA_6.out.cell 1).trans rfl
        have aA1 : ∀ o : Obj, (w6.alloc o).cell? ⟨w.heap.size, 1, none⟩ = some (.int .i64 z0) := fun o => ((KA_6.out.alloc o).cell 1).trans rfl
        have cB0 : w6.cell? ⟨w.heap.size + 1, 0, none⟩ = some (.string s0) := (KB_6.out.cell 0).trans rfl
        have aB0 : ∀ o : Obj, (w6.alloc o).cell? ⟨w.heap.size + 1, 0, none⟩ = some (.string s0) := fun o => ((KB_6.out.alloc o).cell 0).trans rfl
        have cB1 : w6.cell? ⟨w.heap.size + 1, 1, none⟩ = some (.int .i64 z1) := (KB_6.out.cell 1).trans rfl
        have aB1 : ∀ o : Obj, (w6.alloc o).cell? ⟨w.heap.size + 1, 1, none⟩ = some (.int .i64 z1) := fun o => ((KB_6.out.alloc o).cell 1).trans rfl
        have cP0 : w6.cell? ⟨w4.heap.size, 0, none⟩ = some (.string s0) := (KP_6.out.cell 0).trans rfl
        have aP0 : ∀ o : Obj, (w6.alloc o).cell? ⟨w4.heap.size, 0, none⟩ = some (.string s0) := fun o => ((KP_6.out.alloc o).cell 0).trans rfl
        have cP1 : w6.cell? ⟨w4.heap.size, 1, none⟩ = some (.int .i64 (z0 + z1)) := (KP_6.out.cell 1).trans rfl
        have aP1 : ∀ o : Obj, (w6.alloc o).cell? ⟨w4.heap.size, 1, none⟩ = some (.int .i64 (z0 + z1)) := fun o => ((KP_6.out.alloc o).cell 1).trans rfl
        have cQ0 : w6.cell? ⟨w5.heap.size, 0, none⟩ = some (.string s0) := (KQ_6.out.cell 0).trans rfl
        have aQ0 : ∀ o : Obj, (w6.alloc o).cell? ⟨w5.heap.size, 0, none⟩ = some (.string s0) := fun o => ((KQ_6.out.alloc o).cell 0).trans rfl
        have cQ1 : w6.cell? ⟨w5.heap.size, 1, none⟩ = some (.int .i64 (z0 - z1)) := (KQ_6.out.cell 1).trans rfl
        have aQ1 : ∀ o : Obj, (w6.alloc o).cell? ⟨w5.heap.size, 1, none⟩ = some (.int .i64 (z0 - z1)) := fun o => ((KQ_6.out.alloc o).cell 1).trans rfl
        go_wp2_with (fail)
        go_at_call 45
        refine (iSubAmountNo s0 z0 n _ (by omega) (by omega) (by omega)).mono ?_
        rintro e w7 ⟨rfl, hE⟩
        have HD7 := Lib.hid (show Ext w6 w7 from (ext1 _ _).trans' hE)
        have KA_7 := Lib.hid (KA_6.out.ext HD7.out)
        have KB_7 := Lib.hid (KB_6.out.ext HD7.out)
        have KP_7 := Lib.hid (KP_6.out.ext HD7.out)
        have KQ_7 := Lib.hid (KQ_6.out.ext HD7.out)
        have KZ_7 := Lib.hid ((blk_new0 w6 37 [.string s0, .int .i64 (z0 + n)]).ext hE)
        have HE7 := Lib.hid (HE6.out.trans' HD7.out)
        clear hE cA0 aA0 cA1 aA1 cB0 aB0 cB1 aB1 cP0 aP0 cP1 aP1 cQ0 aQ0 cQ1 aQ1
        have cA0 : w7.cell? ⟨w.heap.size, 0, none⟩ = some (.string s0) := (KA_7.out.cell 0).trans rfl
        have aA0 : ∀ o : Obj, (w7.alloc o).cell? ⟨w.heap.size, 0, none⟩ = some (.string s0) := fun o => ((KA_7.out.alloc o).cell 0).trans rfl
        have cA1 : w7.cell? ⟨w.heap.size, 1, none⟩ = some (.int .i64 z0) := (KA_7.out.cell 1).trans rfl
        have aA1 : ∀ o : Obj, (w7.alloc o).cell? ⟨w.heap.size, 1, none⟩ = some (.int .i64 z0) := fun o => ((KA_7.out.alloc o).cell 1).trans rfl
        have cB0 : w7.cell? ⟨w.heap.size + 1, 0, none⟩ = some (.string s0) := (KB_7.out.cell 0).trans rfl
        have aB0 : ∀ o : Obj, (w7.alloc o).cell? ⟨w.heap.size + 1, 0, none⟩ = some (.string s0) := fun o => ((KB_7.out.alloc o).cell 0).trans rfl
        have cB1 : w7.cell? ⟨w.heap.size + 1, 1, none⟩ = some (.int .i64 z1) := (KB_7.out.cell 1).trans rfl
        have aB1 : ∀ o : Obj, (w7.alloc o).cell? ⟨w.heap.size + 1, 1, none⟩ = some (.int .i64 z1) := fun o => ((KB_7.out.alloc o).cell 1).trans rfl
        have cP0 : w7.cell? ⟨w4.heap.size, 0, none⟩ = some (.string s0) := (KP_7.out.cell 0).trans rfl
        have aP0 : ∀ o : Obj, (w7.alloc o).cell? ⟨w4.heap.size, 0, none⟩ = some (.string s0) := fun o => ((KP_7.out.alloc o).cell 0).trans rfl
        have cP1 : w7.cell? ⟨w4.heap.size, 1, none⟩ = some (.int .i64 (z0 + z1)) := (KP_7.out.cell 1).trans rfl
        have aP1 : ∀ o : Obj, (w7.alloc o).cell? ⟨w4.heap.size, 1, none⟩ = some (.int .i64 (z0 + z1)) := fun o => ((KP_7.out.alloc o).cell 1).trans rfl
        have cQ0 : w7.cell? ⟨w5.heap.size, 0, none⟩ = some (.string s0) := (KQ_7.out.cell 0).trans rfl
        have aQ0 : ∀ o : Obj, (w7.alloc o).cell? ⟨w5.heap.size, 0, none⟩ = some (.string s0) := fun o => ((KQ_7.out.alloc o).cell 0).trans rfl
        have cQ1 : w7.cell? ⟨w5.heap.size, 1, none⟩ = some (.int .i64 (z0 - z1)) := (KQ_7.out.cell 1).trans rfl
        have aQ1 : ∀ o : Obj, (w7.alloc o).cell? ⟨w5.heap.size, 1, none⟩ = some (.int .i64 (z0 - z1)) := fun o => ((KQ_7.out.alloc o).cell 1).trans rfl
        have cZ0 : w7.cell? ⟨w6.heap.size, 0, none⟩ = some (.string s0) := (KZ_7.out.cell 0).trans rfl
        have aZ0 : ∀ o : Obj, (w7.alloc o).cell? ⟨w6.heap.size, 0, none⟩ = some (.string s0) := fun o => ((KZ_7.out.alloc o).cell 0).trans rfl
        have cZ1 : w7.cell? ⟨w6.heap.size, 1, none⟩ = some (.int .i64 (z0 + n)) := (KZ_7.out.cell 1).trans rfl
        have aZ1 : ∀ o : Obj, (w7.alloc o).cell? ⟨w6.heap.size, 1, none⟩ = some (.int .i64 (z0 + n)) := fun o => ((KZ_7.out.alloc o).cell 1).trans rfl
        go_wp2_with (fail)
        go_at_call 24
        refine (sumAwake _).mono ?_
        rintro e w8 ⟨rfl, hE⟩
        have HD8 := Lib.hid (show Ext w7 w8 from (ext1 _ _).trans' hE)
        have KA_8 := Lib.hid (KA_7.out.ext HD8.out)
        have KB_8 := Lib.hid (KB_7.out.ext HD8.out)
        have KP_8 := Lib.hid (KP_7.out.ext HD8.out)
        have KQ_8 := Lib.hid (KQ_7.out.ext HD8.out)
        have KZ_8 := Lib.hid (KZ_7.out.ext HD8.out)
        have KY_8 := Lib.hid ((blk_new0 w7 37 [.string ⟨#[]⟩, .int .i64 0]).ext hE)
        have HE8 := Lib.hid (HE7.out.trans' HD8.out)
        clear hE cA0 aA0 cA1 aA1 cB0 aB0 cB1 aB1 cP0 aP0 cP1 aP1 cQ0 aQ0 cQ1 aQ1 cZ0 aZ0 cZ1 aZ1
        go_wp2
        go_ret
        exact ⟨rfl, EW.out.trans' HE8.out⟩
    · have dg : decide (z1 ≤ z0) = false := by simpa using hge
      go_wp2_with (fail)
      go_at_call 42
      refine (iAddOne s0 z0 z1 _ (by omega) (by omega)).mono ?_
      rintro e w4 ⟨rfl, hE⟩
      have HD4 := Lib.hid (show Ext w3 w4 from hE)
      have KA_4 := Lib.hid (KA_3.out.ext HD4.out)
      have KB_4 := Lib.hid (KB_3.out.ext HD4.out)
      have HE4 := Lib.hid (HE3.out.trans' HD4.out)
      clear hE cA0 cA1 cB0 cB1
      have cA0 : w4.cell? ⟨w.heap.size, 0, none⟩ = some (.string s0) := (KA_4.out.cell 0).trans rfl
      have aA0 : ∀ o : Obj, (w4.alloc o).cell? ⟨w.heap.size, 0, none⟩ = some (.string s0) := fun o => ((KA_4.out.alloc o).cell 0).trans rfl
      have cA1 : w4.cell? ⟨w.heap.size, 1, none⟩ = some (.int .i64 z0) := (KA_4.out.cell 1).trans rfl
      have aA1 : ∀ o : Obj, (w4.alloc o).cell? ⟨w.heap.size, 1, none⟩ = some (.int .i64 z0) := fun o => ((KA_4.out.alloc o).cell 1).trans rfl
      have cB0 : w4.cell? ⟨w.heap.size + 1, 0, none⟩ = some (.string s0) := (KB_4.out.cell 0).trans rfl
      have aB0 : ∀ o : Obj, (w4.alloc o).cell? ⟨w.heap.size + 1, 0, none⟩ = some (.string s0) := fun o => ((KB_4.out.alloc o).cell 0).trans rfl
      have cB1 : w4.cell? ⟨w.heap.size + 1, 1, none⟩ = some (.int .i64 z1) := (KB_4.out.cell 1).trans rfl
      have aB1 : ∀ o : Obj, (w4.alloc o).cell? ⟨w.heap.size + 1, 1, none⟩ = some (.int .i64 z1) := fun o => ((KB_4.out.alloc o).cell 1).trans rfl
      go_wp2_with (fail)
      go_at_call 43
      refine (iSubOneNo s0 s0 z0 z1 _ (by omega) (by omega) (fun V a b hA hB => tSafeSubNeg s0 a b z0 z1 V hA hB (by unfold B64; omega) (by unfold B64; omega) (by unfold B64; omega) (by omega))).mono ?_
      rintro e w5 ⟨rfl, hE⟩
      have HD5 := Lib.hid (show Ext w4 w5 from (ext1 _ _).trans' hE)
      have KA_5 := Lib.hid (KA_4.out.ext HD5.out)
      have KB_5 := Lib.hid (KB_4.out.ext HD5.out)
      have KP_5 := Lib.hid ((blk_new0 w4 37 [.string s0, .int .i64 (z0 + z1)]).ext hE)
      have HE5 := Lib.hid (HE4.out.trans' HD5.out)
      clear hE cA0 aA0 cA1 aA1 cB0 aB0 cB1 aB1
      have cA0 : w5.cell? ⟨w.heap.size, 0, none⟩ = some (.string s0) := (KA_5.out.cell 0).trans rfl
      have aA0 : ∀ o : Obj, (w5.alloc o).cell? ⟨w.heap.size, 0, none⟩ = some (.string s0) := fun o => ((KA_5.out.alloc o).cell 0).trans rfl
      have cA1 : w5.cell? ⟨w.heap.size, 1, none⟩ = some (.int .i64 z0) := (KA_5.out.cell 1).trans rfl
      have aA1 : ∀ o : Obj, (w5.alloc o).cell? ⟨w.heap.size, 1, none⟩ = some (.int .i64 z0) := fun o => ((KA_5.out.alloc o).cell 1).trans rfl
      have cB0 : w5.cell? ⟨w.heap.size + 1, 0, none⟩ = some (.string s0) := (KB_5.out.cell 0).trans rfl
      have aB0 : ∀ o : Obj, (w5.alloc o).cell? ⟨w.heap.size + 1, 0, none⟩ = some (.string s0) := fun o => ((KB_5.out.alloc o).cell 0).trans rfl
      have cB1 : w5.cell? ⟨w.heap.size + 1, 1, none⟩ = some (.int .i64 z1) := (KB_5.out.cell 1).trans rfl
      have aB1 : ∀ o : Obj, (w5.alloc o).cell? ⟨w.heap.size + 1, 1, none⟩ = some (.int .i64 z1) := fun o => ((KB_5.out.alloc o).cell 1).trans rfl
      have cP0 : w5.cell? ⟨w4.heap.size, 0, none⟩ = some (.string s0) := (KP_5.out.cell 0).trans rfl
      have aP0 : ∀ o : Obj, (w5.alloc o).cell? ⟨w4.heap.size, 0, none⟩ = some (.string s0) := fun o => ((KP_5.out.alloc o).cell 0).trans rfl
      have cP1 : w5.cell? ⟨w4.heap.size, 1, none⟩ = some (.int .i64 (z0 + z1)) := (KP_5.out.cell 1).trans rfl
      have aP1 : ∀ o : Obj, (w5.alloc o).cell? ⟨w4.heap.size, 1, none⟩ = some (.int .i64 (z0 + z1)) := fun o => ((KP_5.out.alloc o).cell 1).trans rfl
      by_cases hmn : n ≤ z0
      · have dn : decide (n ≤ z0) = true := by simpa using hmn
        go_wp2_with (fail)
        go_at_call 44
        refine (iAddAmount s0 z0 n _ (by omega) (by omega)).mono ?_
        rintro e w6 ⟨rfl, hE⟩
        have HD6 := Lib.hid (show Ext w5 w6 from (ext1 _ _).trans' hE)
        have KA_6 := Lib.hid (KA_5.out.ext HD6.out)
        have KB_6 := Lib.hid (KB_5.out.ext HD6.out)
        have KP_6 := Lib.hid (KP_5.out.ext HD6.out)
        have KQ_6 := Lib.hid ((blk_new0 w5 37 [.string ⟨#[]⟩, .int .i64 0]).ext hE)
        have HE6 := Lib.hid (HE5.out.trans' HD6.out)
        clear hE cA0 aA0 cA1 aA1 cB0 aB0 cB1 aB1 cP0 aP0 cP1 aP1
        have cA0 : w6.cell? ⟨w.heap.size, 0, none⟩ = some (.string s0) := (KA_6.out.cell 0).trans rfl
        have aA0 : ∀ o : Obj, (w6.alloc o).cell? ⟨w.heap.size, 0, none⟩ = some (.string s0) := fun o => ((KA_6.out.alloc o).cell 0).trans rfl
        have cA1 : w6.cell? ⟨w.heap.size, 1, none⟩ = some (.int .i64 z0) := (KA_6.out.cell 1).trans rfl
        have aA1 : ∀ o : Obj, (w6.alloc o).cell? ⟨w.heap.size, 1, none⟩ = some (.int .i64 z0) := fun o => ((KA_6.out.alloc o).cell 1).trans rfl
        have cB0 : w6.cell? ⟨w.heap.size + 1, 0, none⟩ = some (.string s0) := (KB_6.out.cell 0).trans rfl
        have aB0 : ∀ o : Obj, (w6.alloc o).cell? ⟨w.heap.size + 1, 0, none⟩ = some (.string s0) := fun o => ((KB_6.out.alloc o).cell 0).trans rfl
        have cB1 : w6.cell? ⟨w.heap.size + 1, 1, none⟩ = some (.int .i64 z1) := (KB_6.out.cell 1).trans rfl
        have aB1 : ∀ o : Obj, (w6.alloc o).cell? ⟨w.heap.size + 1, 1, none⟩ = some (.int .i64 z1) := fun o => ((KB_6.out.alloc o).cell 1).trans rfl
        have cP0 : w6.cell? ⟨w4.heap.size, 0, none⟩ = some (.string s0) := (KP_6.out.cell 0).trans rfl
        have aP0 : ∀ o : Obj, (w6.alloc o).cell? ⟨w4.heap.size, 0, none⟩ = some (.string s0) := fun o => ((KP_6.out.alloc o).cell 0).trans rfl
        have cP1 : w6.cell? ⟨w4.heap.size, 1, none⟩ = some (.int .i64 (z0 + z1)) := (KP_6.out.cell 1).trans rfl
        have aP1 : ∀ o : Obj, (w6.alloc o).cell? ⟨w4.heap.size, 1, none⟩ = some (.int .i64 (z0 + z1)) := fun o => ((KP_6.out.alloc o).cell 1).trans rfl
        have cQ0 : w6.cell? ⟨w5.heap.size, 0, none⟩ = some (.string ⟨#[]⟩) := (KQ_6.out.cell 0).trans rfl
        have aQ0 : ∀ o : Obj, (w6.alloc o).cell? ⟨w5.heap.size, 0, none⟩ = some (.string ⟨#[]⟩) := fun o => ((KQ_6.out.alloc o).cell 0).trans rfl
        have cQ1 : w6.cell? ⟨w5.heap.size, 1, none⟩ = some (.int .i64 0) := (KQ_6.out.cell 1).trans rfl
        have aQ1 : ∀ o : Obj, (w6.alloc o).cell? ⟨w5.heap.size, 1, none⟩ = some (.int .i64 0) := fun o => ((KQ_6.out.alloc o).cell 1).trans rfl
        go_wp2_with (fail)
        go_at_call 45
        refine (iSubAmountYes s0 z0 n _ (by omega) (by omega) (by omega)).mono ?_
        rintro e w7 ⟨rfl, hE⟩
        have HD7 := Lib.hid (show Ext w6 w7 from (ext1 _ _).trans' hE)
        have KA_7 := Lib.hid (KA_6.out.ext HD7.out)
        have KB_7 := Lib.hid (KB_6.out.ext HD7.out)
        have KP_7 := Lib.hid (KP_6.out.ext HD7.out)
        have KQ_7 := Lib.hid (KQ_6.out.ext HD7.out)
        have KZ_7 := Lib.hid ((blk_new0 w6 37 [.string s0, .int .i64 (z0 + n)]).ext hE)
        have HE7 := Lib.hid (HE6.out.trans' HD7.out)
        clear hE cA0 aA0 cA1 aA1 cB0 aB0 cB1 aB1 cP0 aP0 cP1 aP1 cQ0 aQ0 cQ1 aQ1
        have cA0 : w7.cell? ⟨w.heap.size, 0, none⟩ = some (.string s0) := (KA_7.out.cell 0).trans rfl
        have aA0 : ∀ o : Obj, (w7.alloc o).cell? ⟨w.heap.size, 0, none⟩ = some (.string s0) := fun o => ((KA_7.out.alloc o).cell 0).trans rfl
        have cA1 : w7.cell? ⟨w.heap.size, 1, none⟩ = some (.int .i64 z0) := (KA_7.out.cell 1).trans rfl
        have aA1 : ∀ o : Obj, (w7.alloc o).cell? ⟨w.heap.size, 1, none⟩ = some (.int .i64 z0) := fun o => ((KA_7.out.alloc o).cell 1).trans rfl
        have cB0 : w7.cell? ⟨w.heap.size + 1, 0, none⟩ = some (.string s0) := (KB_7.out.cell 0).trans rfl
        have aB0 : ∀ o : Obj, (w7.alloc o).cell? ⟨w.heap.size + 1, 0, none⟩ = some (.string s0) := fun o => ((KB_7.out.alloc o).cell 0).trans rfl
        have cB1 : w7.cell? ⟨w.heap.size + 1, 1, none⟩ = some (.int .i64 z1) := (KB_7.out.cell 1).trans rfl
        have aB1 : ∀ o : Obj, (w7.alloc o).cell? ⟨w.heap.size + 1, 1, none⟩ = some (.int .i64 z1) := fun o => ((KB_7.out.alloc o).cell 1).trans rfl
        have cP0 : w7.cell? ⟨w4.heap.size, 0, none⟩ = some (.string s0) := (KP_7.out.cell 0).trans rfl
        have aP0 : ∀ o : Obj, (w7.alloc o).cell? ⟨w4.heap.size, 0, none⟩ = some (.string s0) := fun o => ((KP_7.out.alloc o).cell 0).trans rfl
        have cP1 : w7.cell? ⟨w4.heap.size, 1, none⟩ = some (.int .i64 (z0 + z1)) := (KP_7.out.cell 1).trans rfl
        have aP1 : ∀ o : Obj, (w7.alloc o).cell? ⟨w4.heap.size, 1, none⟩ = some (.int .i64 (z0 + z1)) := fun o => ((KP_7.out.alloc o).cell 1).trans rfl
        have cQ0 : w7.cell? ⟨w5.heap.size, 0, none⟩ = some (.string ⟨#[]⟩) := (KQ_7.out.cell 0).trans rfl
        have aQ0 : ∀ o : Obj, (w7.alloc o).cell? ⟨w5.heap.size, 0, none⟩ = some (.string ⟨#[]⟩) := fun o => ((KQ_7.out.alloc o).cell 0).trans rfl
        have cQ1 : w7.cell? ⟨w5.heap.size, 1, none⟩ = some (.int .i64 0) := (KQ_7.out.cell 1).trans rfl
        have aQ1 : ∀ o : Obj, (w7.alloc o).cell? ⟨w5.heap.size, 1, none⟩ = some (.int .i64 0) := fun o => ((KQ_7.out.alloc o).cell 1).trans rfl
        have cZ0 : w7.cell? ⟨w6.heap.size, 0, none⟩ = some (.string s0) := (KZ_7.out.cell 0).trans rfl
        have aZ0 : ∀ o : Obj, (w7.alloc o).cell? ⟨w6.heap.size, 0, none⟩ = some (.string s0) := fun o => ((KZ_7.out.alloc o).cell 0).trans rfl
        have cZ1 : w7.cell? ⟨w6.heap.size, 1, none⟩ = some (.int .i64 (z0 + n)) := (KZ_7.out.cell 1).trans rfl
        have aZ1 : ∀ o : Obj, (w7.alloc o).cell? ⟨w6.heap.size, 1, none⟩ = some (.int .i64 (z0 + n)) := fun o => ((KZ_7.out.alloc o).cell 1).trans rfl
        go_wp2_with (fail)
        go_at_call 24
        refine (sumAwake _).mono ?_
        rintro e w8 ⟨rfl, hE⟩
        have HD8 := Lib.hid (show Ext w7 w8 from (ext1 _ _).trans' hE)
        have KA_8 := Lib.hid (KA_7.out.ext HD8.out)
        have KB_8 := Lib.hid (KB_7.out.ext HD8.out)
        have KP_8 := Lib.hid (KP_7.out.ext HD8.out)
        have KQ_8 := Lib.hid (KQ_7.out.ext HD8.out)
        have KZ_8 := Lib.hid (KZ_7.out.ext HD8.out)
        have KY_8 := Lib.hid ((blk_new0 w7 37 [.string s0, .int .i64 (z0 - n)]).ext hE)
        have HE8 := Lib.hid (HE7.out.trans' HD8.out)
        clear hE cA0 aA0 cA1 aA1 cB0 aB0 cB1 aB1 cP0 aP0 cP1 aP1 cQ0 aQ0 cQ1 aQ1 cZ0 aZ0 cZ1 aZ1
        go_wp2
        go_ret
        exact ⟨rfl, EW.out.trans' HE8.out⟩
      · have dn : decide (n ≤ z0) = false := by simpa using hmn
        go_wp2_with (fail)
        go_at_call 44
        refine (iAddAmount s0 z0 n _ (by omega) (by omega)).mono ?_
        rintro e w6 ⟨rfl, hE⟩
        have HD6 := Lib.hid (show Ext w5 w6 from (ext1 _ _).trans' hE)
        have KA_6 := Lib.hid (KA_5.out.ext HD6.out)
        have KB_6 := Lib.hid (KB_5.out.ext HD6.out)
        have KP_6 := Lib.hid (KP_5.out.ext HD6.out)
        have KQ_6 := Lib.hid ((blk_new0 w5 37 [.string ⟨#[]⟩, .int .i64 0]).ext hE)
        have HE6 := Lib.hid (HE5.out.trans' HD6.out)
        clear hE cA0 aA0 cA1 aA1 cB0 aB0 cB1 aB1 cP0 aP0 cP1 aP1
        have cA0 : w6.cell? ⟨w.heap.size, 0, none⟩ = some (.string s0) := (KA_6.out.cell 0).trans rfl
        have aA0 : ∀ o : Obj, (w6.alloc o).cell? ⟨w.heap.size, 0, none⟩ = some (.string s0) := fun o => ((KA_6.out.alloc o).cell 0).trans rfl
        have cA1 : w6.cell? ⟨w.heap.size, 1, none⟩ = some (.int .i64 z0) := (KA_6.out.cell 1).trans rfl
        have aA1 : ∀ o : Obj, (w6.alloc o).cell? ⟨w.heap.size, 1, none⟩ = some (.int .i64 z0) := fun o => ((KA_6.out.alloc o).cell 1).trans rfl
        have cB0 : w6.cell? ⟨w.heap.size + 1, 0, none⟩ = some (.string s0) := (KB_6.out.cell 0).trans rfl
        have aB0 : ∀ o : Obj, (w6.alloc o).cell? ⟨w.heap.size + 1, 0, none⟩ = some (.string s0) := fun o => ((KB_6.out.alloc o).cell 0).trans rfl
        have cB1 : w6.cell? ⟨w.heap.size + 1, 1, none⟩ = some (.int .i64 z1) := (KB_6.out.cell 1).trans rfl
        have aB1 : ∀ o : Obj, (w6.alloc o).cell? ⟨w.heap.size + 1, 1, none⟩ = some (.int .i64 z1) := fun o => ((KB_6.out.alloc o).cell 1).trans rfl
        have cP0 : w6.cell? ⟨w4.heap.size, 0, none⟩ = some (.string s0) := (KP_6.out.cell 0).trans rfl
        have aP0 : ∀ o : Obj, (w6.alloc o).cell? ⟨w4.heap.size, 0, none⟩ = some (.string s0) := fun o => ((KP_6.out.alloc o).cell 0).trans rfl
        have cP1 : w6.cell? ⟨w4.heap.size, 1, none⟩ = some (.int .i64 (z0 + z1)) := (KP_6.out.cell 1).trans rfl
        have aP1 : ∀ o : Obj, (w6.alloc o).cell? ⟨w4.heap.size, 1, none⟩ = some (.int .i64 (z0 + z1)) := fun o => ((KP_6.out.alloc o).cell 1).trans rfl
        have cQ0 : w6.cell? ⟨w5.heap.size, 0, none⟩ = some (.string ⟨#[]⟩) := (KQ_6.out.cell 0).trans rfl
        have aQ0 : ∀ o : Obj, (w6.alloc o).cell? ⟨w5.heap.size, 0, none⟩ = some (.string ⟨#[]⟩) := fun o => ((KQ_6.out.alloc o).cell 0).trans rfl
        have cQ1 : w6.cell? ⟨w5.heap.size, 1, none⟩ = some (.int .i64 0) := (KQ_6.out.cell 1).trans rfl
        have aQ1 : ∀ o : Obj, (w6.alloc o).cell? ⟨w5.heap.size, 1, none⟩ = some (.int .i64 0) := fun o => ((KQ_6.out.alloc o).cell 1).trans rfl
        go_wp2_with (fail)
        go_at_call 45
        refine (iSubAmountNo s0 z0 n _ (by omega) (by omega) (by omega)).mono ?_
        rintro e w7 ⟨rfl, hE⟩
        have HD7 := Lib.hid (show Ext w6 w7 from (ext1 _ _).trans' hE)
        have KA_7 := Lib.hid (KA_6.out.ext HD7.out)
        have KB_7 := Lib.hid (KB_6.out.ext HD7.out)
        have KP_7 := Lib.hid (KP_6.out.ext HD7.out)
        have KQ_7 := Lib.hid (KQ_6.out.ext HD7.out)
        have KZ_7 := Lib.hid ((blk_new0 w6 37 [.string s0, .int .i64 (z0 + n)]).ext hE)
        have HE7 := Lib.hid (HE6.out.trans' HD7.out)
        clear hE cA0 aA0 cA1 aA1 cB0 aB0 cB1 aB1 cP0 aP0 cP1 aP1 cQ0 aQ0 cQ1 aQ1
        have cA0 : w7.cell? ⟨w.heap.size, 0, none⟩ = some (.string s0) := (KA_7.out.cell 0).trans rfl
        have aA0 : ∀ o : Obj, (w7.alloc o).cell? ⟨w.heap.size, 0, none⟩ = some (.string s0) := fun o => ((KA_7.out.alloc o).cell 0).trans rfl
        have cA1 : w7.cell? ⟨w.heap.size, 1, none⟩ = some (.int .i64 z0) := (KA_7.out.cell 1).trans rfl
        have aA1 : ∀ o : Obj, (w7.alloc o).cell? ⟨w.heap.size, 1, none⟩ = some (.int .i64 z0) := fun o => ((KA_7.out.alloc o).cell 1).trans rfl
        have cB0 : w7.cell? ⟨w.heap.size + 1, 0, none⟩ = some (.string s0) := (KB_7.out.cell 0).trans rfl
        have aB0 : ∀ o : Obj, (w7.alloc o).cell? ⟨w.heap.size + 1, 0, none⟩ = some (.string s0) := fun o => ((KB_7.out.alloc o).cell 0).trans rfl
        have cB1 : w7.cell? ⟨w.heap.size + 1, 1, none⟩ = some (.int .i64 z1) := (KB_7.out.cell 1).trans rfl
        have aB1 : ∀ o : Obj, (w7.alloc o).cell? ⟨w.heap.size + 1, 1, none⟩ = some (.int .i64 z1) := fun o => ((KB_7.out.alloc o).cell 1).trans rfl
        have cP0 : w7.cell? ⟨w4.heap.size, 0, none⟩ = some (.string s0) := (KP_7.out.cell 0).trans rfl
        have aP0 : ∀ o : Obj, (w7.alloc o).cell? ⟨w4.heap.size, 0, none⟩ = some (.string s0) := fun o => ((KP_7.out.alloc o).cell 0).trans rfl
        have cP1 : w7.cell? ⟨w4.heap.size, 1, none⟩ = some (.int .i64 (z0 + z1)) := (KP_7.out.cell 1).trans rfl
        have aP1 : ∀ o : Obj, (w7.alloc o).cell? ⟨w4.heap.size, 1, none⟩ = some (.int .i64 (z0 + z1)) := fun o => ((KP_7.out.alloc o).cell 1).trans rfl
        have cQ0 : w7.cell? ⟨w5.heap.size, 0, none⟩ = some (.string ⟨#[]⟩) := (KQ_7.out.cell 0).trans rfl
        have aQ0 : ∀ o : Obj, (w7.alloc o).cell? ⟨w5.heap.size, 0, none⟩ = some (.string ⟨#[]⟩) := fun o => ((KQ_7.out.alloc o).cell 0).trans rfl
        have cQ1 : w7.cell? ⟨w5.heap.size, 1, none⟩ = some (.int .i64 0) := (KQ_7.out.cell 1).trans rfl
        have aQ1 : ∀ o : Obj, (w7.alloc o).cell? ⟨w5.heap.size, 1, none⟩ = some (.int .i64 0) := fun o => ((KQ_7.out.alloc o).cell 1).trans rfl
        have cZ0 : w7.cell? ⟨w6.heap.size, 0, none⟩ = some (.string s0) := (KZ_7.out.cell 0).trans rfl
        have aZ0 : ∀ o : Obj, (w7.alloc o).cell? ⟨w6.heap.size, 0, none⟩ = some (.string s0) := fun o => ((KZ_7.out.alloc o).cell 0).trans rfl
        have cZ1 : w7.cell? ⟨w6.heap.size, 1, none⟩ = some (.int .i64 (z0 + n)) := (KZ_7.out.cell 1).trans rfl
        have aZ1 : ∀ o : Obj, (w7.alloc o).cell? ⟨w6.heap.size, 1, none⟩ = some (.int .i64 (z0 + n)) := fun o => ((KZ_7.out.alloc o).cell 1).trans rfl
        go_wp2_with (fail)
        go_at_call 24
        refine (sumAwake _).mono ?_
        rintro e w8 ⟨rfl, hE⟩
        have HD8 := Lib.hid (show Ext w7 w8 from (ext1 _ _).trans' hE)
        have KA_8 := Lib.hid (KA_7.out.ext HD8.out)
        have KB_8 := Lib.hid (KB_7.out.ext HD8.out)
        have KP_8 := Lib.hid (KP_7.out.ext HD8.out)
        have KQ_8 := Lib.hid (KQ_7.out.ext HD8.out)
        have KZ_8 := Lib.hid (KZ_7.out.ext HD8.out)
        have KY_8 := Lib.hid ((blk_new0 w7 37 [.string ⟨#[]⟩, .int .i64 0]).ext hE)
        have HE8 := Lib.hid (HE7.out.trans' HD8.out)
        clear hE cA0 aA0 cA1 aA1 cB0 aB0 cB1 aB1 cP0 aP0 cP1 aP1 cQ0 aQ0 cQ1 aQ1 cZ0 aZ0 cZ1 aZ1
        go_wp2
        go_ret
        exact ⟨rfl, EW.out.trans' HE8.out⟩
  · have hne : (s0.toList == s1.toList) = false := by rw [key_beq]; simpa using hst
    have HST := Lib.hid hst; clear hst
    go_wp2_with (fail)
    go_at_call 42
    refine (iAddOneNo s0 s1 z0 z1 _ HST.out).mono ?_
    rintro e w4 ⟨rfl, hE⟩
    have HD4 := Lib.hid (show Ext w3 w4 from hE)
    have KA_4 := Lib.hid (KA_3.out.ext HD4.out)
    have KB_4 := Lib.hid (KB_3.out.ext HD4.out)
    have HE4 := Lib.hid (HE3.out.trans' HD4.out)
    clear hE cA0 cA1 cB0 cB1
    have cA0 : w4.cell? ⟨w.heap.size, 0, none⟩ = some (.string s0) := (KA_4.out.cell 0).trans rfl
    have aA0 : ∀ o : Obj, (w4.alloc o).cell? ⟨w.heap.size, 0, none⟩ = some (.string s0) := fun o => ((KA_4.out.alloc o).cell 0).trans rfl
    have cA1 : w4.cell? ⟨w.heap.size, 1, none⟩ = some (.int .i64 z0) := (KA_4.out.cell 1).trans rfl
    have aA1 : ∀ o : Obj, (w4.alloc o).cell? ⟨w.heap.size, 1, none⟩ = some (.int .i64 z0) := fun o => ((KA_4.out.alloc o).cell 1).trans rfl
    have cB0 : w4.cell? ⟨w.heap.size + 1, 0, none⟩ = some (.string s1) := (KB_4.out.cell 0).trans rfl
    have aB0 : ∀ o : Obj, (w4.alloc o).cell? ⟨w.heap.size + 1, 0, none⟩ = some (.string s1) := fun o => ((KB_4.out.alloc o).cell 0).trans rfl
    have cB1 : w4.cell? ⟨w.heap.size + 1, 1, none⟩ = some (.int .i64 z1) := (KB_4.out.cell 1).trans rfl
    have aB1 : ∀ o : Obj, (w4.alloc o).cell? ⟨w.heap.size + 1, 1, none⟩ = some (.int .i64 z1) := fun o => ((KB_4.out.alloc o).cell 1).trans rfl
    go_wp2_with (fail)
    go_at_call 43
    refine (iSubOneNo s0 s1 z0 z1 _ (by omega) (by omega) (fun V a b _ _ => tSafeSubOther s0 s1 a b V HST.out)).mono ?_
    rintro e w5 ⟨rfl, hE⟩
    have HD5 := Lib.hid (show Ext w4 w5 from (ext1 _ _).trans' hE)
    have KA_5 := Lib.hid (KA_4.out.ext HD5.out)
    have KB_5 := Lib.hid (KB_4.out.ext HD5.out)
    have KP_5 := Lib.hid ((blk_new0 w4 37 [.string ⟨#[]⟩, .int .i64 0]).ext hE)
    have HE5 := Lib.hid (HE4.out.trans' HD5.out)
    clear hE cA0 aA0 cA1 aA1 cB0 aB0 cB1 aB1
    have cA0 : w5.cell? ⟨w.heap.size, 0, none⟩ = some (.string s0) := (KA_5.out.cell 0).trans rfl
    have aA0 : ∀ o : Obj, (w5.alloc o).cell? ⟨w.heap.size, 0, none⟩ = some (.string s0) := fun o => ((KA_5.out.alloc o).cell 0).trans rfl
    have cA1 : w5.cell? ⟨w.heap.size, 1, none⟩ = some (.int .i64 z0) := (KA_5.out.cell 1).trans rfl
    have aA1 : ∀ o : Obj, (w5.alloc o).cell? ⟨w.heap.size, 1, none⟩ = some (.int .i64 z0) := fun o => ((KA_5.out.alloc o).cell 1).trans rfl
    have cB0 : w5.cell? ⟨w.heap.size + 1, 0, none⟩ = some (.string s1) := (KB_5.out.cell 0).trans rfl
    have aB0 : ∀ o : Obj, (w5.alloc o).cell? ⟨w.heap.size + 1, 0, none⟩ = some (.string s1) := fun o => ((KB_5.out.alloc o).cell 0).trans rfl
    have cB1 : w5.cell? ⟨w.heap.size + 1, 1, none⟩ = some (.int .i64 z1) := (KB_5.out.cell 1).trans rfl
    have aB1 : ∀ o : Obj, (w5.alloc o).cell? ⟨w.heap.size + 1, 1, none⟩ = some (.int .i64 z1) := fun o => ((KB_5.out.alloc o).cell 1).trans rfl
    have cP0 : w5.cell? ⟨w4.heap.size, 0, none⟩ = some (.string ⟨#[]⟩) := (KP_5.out.cell 0).trans rfl
    have aP0 : ∀ o : Obj, (w5.alloc o).cell? ⟨w4.heap.size, 0, none⟩ = some (.string ⟨#[]⟩) := fun o => ((KP_5.out.alloc o).cell 0).trans rfl
    have cP1 : w5.cell? ⟨w4.heap.size, 1, none⟩ = some (.int .i64 0) := (KP_5.out.cell 1).trans rfl
    have aP1 : ∀ o : Obj, (w5.alloc o).cell? ⟨w4.heap.size, 1, none⟩ = some (.int .i64 0) := fun o => ((KP_5.out.alloc o).cell 1).trans rfl
    by_cases hmn : n ≤ z0
    · have dn : decide (n ≤ z0) = true := by simpa using hmn
      go_wp2_with (fail)
      go_at_call 44
      refine (iAddAmount s0 z0 n _ (by omega) (by omega)).mono ?_
      rintro e w6 ⟨rfl, hE⟩
      have HD6 := Lib.hid (show Ext w5 w6 from (ext1 _ _).trans' hE)
      have KA_6 := Lib.hid (KA_5.out.ext HD6.out)
      have KB_6 := Lib.hid (KB_5.out.ext HD6.out)
      have KP_6 := Lib.hid (KP_5.out.ext HD6.out)
      have KQ_6 := Lib.hid ((blk_new0 w5 37 [.string ⟨#[]⟩, .int .i64 0]).ext hE)
      have HE6 := Lib.hid (HE5.out.trans' HD6.out)
      clear hE cA0 aA0 cA1 aA1 cB0 aB0 cB1 aB1 cP0 aP0 cP1 aP1
      have cA0 : w6.cell? ⟨w.heap.size, 0, none⟩ = some (.string s0) := (KA_6.out.cell 0).trans rfl
      have aA0 : ∀ o : Obj, (w6.alloc o).cell? ⟨w.heap.size, 0, none⟩ = some (.string s0) := fun o => ((KA_6.out.alloc o).cell 0).trans rfl
      have cA1 : w6.cell? ⟨w.heap.size, 1, none⟩ = some (.int .i64 z0) := (KA_6.out.cell 1).trans rfl
      have aA1 : ∀ o : Obj, (w6.alloc o).cell? ⟨w.heap.size, 1, none⟩ = some (.int .i64 z0) := fun o => ((KA_6.out.alloc o).cell 1).trans rfl
      have cB0 : w6.cell? ⟨w.heap.size + 1, 0, none⟩ = some (.string s1) := (KB_6.out.cell 0).trans rfl
      have aB0 : ∀ o : Obj, (w6.alloc o).cell? ⟨w.heap.size + 1, 0, none⟩ = some (.string s1) := fun o => ((KB_6.out.alloc o).cell 0).trans rfl
      have cB1 : w6.cell? ⟨w.heap.size + 1, 1, none⟩ = some (.int .i64 z1) := (KB_6.out.cell 1).trans rfl
      have aB1 : ∀ o : Obj, (w6.alloc o).cell? ⟨w.heap.size + 1, 1, none⟩ = some (.int .i64 z1) := fun o => ((KB_6.out.alloc o).cell 1).trans rfl
      have cP0 : w6.cell? ⟨w4.heap.size, 0, none⟩ = some (.string ⟨#[]⟩) := (KP_6.out.cell 0).trans rfl
      have aP0 : ∀ o : Obj, (w6.alloc o).cell? ⟨w4.heap.size, 0, none⟩ = some (.string ⟨#[]⟩) := fun o => ((KP_6.out.alloc o).cell 0).trans rfl
      have cP1 : w6.cell? ⟨w4.heap.size, 1, none⟩ = some (.int .i64 0) := (KP_6.out.cell 1).trans rfl
      have aP1 : ∀ o : Obj, (w6.alloc o).cell? ⟨w4.heap.size, 1, none⟩ = some (.int .i64 0) := fun o => ((KP_6.out.alloc o).cell 1).trans rfl
      have cQ0 : w6.cell? ⟨w5.heap.size, 0, none⟩ = some (.string ⟨#[]⟩) := (KQ_6.out.cell 0).trans rfl
      have aQ0 : ∀ o : Obj, (w6.alloc o).cell? ⟨w5.heap.size, 0, none⟩ = some (.string ⟨#[]⟩) := fun o => ((KQ_6.out.alloc o).cell 0).trans rfl
      have cQ1 : w6.cell? ⟨w5.heap.size, 1, none⟩ = some (.int .i64 0) := (KQ_6.out.cell 1).trans rfl
      have aQ1 : ∀ o : Obj, (w6.alloc o).cell? ⟨w5.heap.size, 1, none⟩ = some (.int .i64 0) := fun o => ((KQ_6.out.alloc o).cell 1).trans rfl
      go_wp2_with (fail)
      go_at_call 45
      refine (iSubAmountYes s0 z0 n _ (by omega) (by omega) (by omega)).mono ?_
      rintro e w7 ⟨rfl, hE⟩
      have HD7 := Lib.hid (show Ext w6 w7 from (ext1 _ _).trans' hE)
      have KA_7 := Lib.hid (KA_6.out.ext HD7.out)
      have KB_7 := Lib.hid (KB_6.out.ext HD7.out)
      have KP_7 := Lib.hid (KP_6.out.ext HD7.out)
      have KQ_7 := Lib.hid (KQ_6.out.ext HD7.out)
      have KZ_7 := Lib.hid ((blk_new0 w6 37 [.string s0, .int .i64 (z0 + n)]).ext hE)
      have HE7 := Lib.hid (HE6.out.trans' HD7.out)
      clear hE cA0 aA0 cA1 aA1 cB0 aB0 cB1 aB1 cP0 aP0 cP1 aP1 cQ0 aQ0 cQ1 aQ1
      have cA0 : w7.cell? ⟨w.heap.size, 0, none⟩ = some (.string s0) := (KA_7.out.cell 0).trans rfl
      have aA0 : ∀ o : Obj, (w7.alloc o).cell? ⟨w.heap.size, 0, none⟩ = some (.string s0) := fun o => ((KA_7.out.alloc o).cell 0).trans rfl
      have cA1 : w7.cell? ⟨w.heap.size, 1, none⟩ = some (.int .i64 z0) := (KA_7.out.cell 1).trans rfl
      have aA1 : ∀ o : Obj, (w7.alloc o).cell? ⟨w.heap.size, 1, none⟩ = some (.int .i64 z0) := fun o => ((KA_7.out.alloc o).cell 1).trans rfl
      have cB0 : w7.cell? ⟨w.heap.size + 1, 0, none⟩ = some (.string s1) := (KB_7.out.cell 0).trans rfl
      have aB0 : ∀ o : Obj, (w7.alloc o).cell? ⟨w.heap.size + 1, 0, none⟩ = some (.string s1) := fun o => ((KB_7.out.alloc o).cell 0).trans rfl
      have cB1 : w7.cell? ⟨w.heap.size + 1, 1, none⟩ = some (.int .i64 z1) := (KB_7.out.cell 1).trans rfl
      have aB1 : ∀ o : Obj, (w7.alloc o).cell? ⟨w.heap.size + 1, 1, none⟩ = some (.int .i64 z1) := fun o => ((KB_7.out.alloc o).cell 1).trans rfl
      have cP0 : w7.cell? ⟨w4.heap.size, 0, none⟩ = some (.string ⟨#[]⟩) := (KP_7.out.cell 0).trans rfl
      have aP0 : ∀ o : Obj, (w7.alloc o).cell? ⟨w4.heap.size, 0, none⟩ = some (.string ⟨#[]⟩) := fun o => ((KP_7.out.alloc o).cell 0).trans rfl
      have cP1 : w7.cell? ⟨w4.heap.size, 1, none⟩ = some (.int .i64 0) := (KP_7.out.cell 1).trans rfl
      have aP1 : ∀ o : Obj, (w7.alloc o).cell? ⟨w4.heap.size, 1, none⟩ = some (.int .i64 0) := fun o => ((KP_7.out.alloc o).cell 1).trans rfl
      have cQ0 : w7.cell? ⟨w5.heap.size, 0, none⟩ = some (.string ⟨#[]⟩) := (KQ_7.out.cell 0).trans rfl
      have aQ0 : ∀ o : Obj, (w7.alloc o).cell? ⟨w5.heap.size, 0, none⟩ = some (.string ⟨#[]⟩) := fun o => ((KQ_7.out.alloc o).cell 0).trans rfl
      have cQ1 : w7.cell? ⟨w5.heap.size, 1, none⟩ = some (.int .i64 0) := (KQ_7.out.cell 1).trans rfl
      have aQ1 : ∀ o : Obj, (w7.alloc o).cell? ⟨w5.heap.size, 1, none⟩ = some (.int .i64 0) := fun o => ((KQ_7.out.alloc o).cell 1).trans rfl
      have cZ0 : w7.cell? ⟨w6.heap.size, 0, none⟩ = some (.string s0) := (KZ_7.out.cell 0).trans rfl
      have aZ0 : ∀ o : Obj, (w7.alloc o).cell? ⟨w6.heap.size, 0, none⟩ = some (.string s0) := fun o => ((KZ_7.out.alloc o).cell 0).trans rfl
      have cZ1 : w7.cell? ⟨w6.heap.size, 1, none⟩ = some (.int .i64 (z0 + n)) := (KZ_7.out.cell 1).trans rfl
      have aZ1 : ∀ o : Obj, (w7.alloc o).cell? ⟨w6.heap.size, 1, none⟩ = some (.int .i64 (z0 + n)) := fun o => ((KZ_7.out.alloc o).cell 1).trans rfl
      go_wp2_with (fail)
      go_at_call 24
      refine (sumAwake _).mono ?_
      rintro e w8 ⟨rfl, hE⟩
      have HD8 := Lib.hid (show Ext w7 w8 from (ext1 _ _).trans' hE)
      have KA_8 := Lib.hid (KA_7.out.ext HD8.out)
      have KB_8 := Lib.hid (KB_7.out.ext HD8.out)
      have KP_8 := Lib.hid (KP_7.out.ext HD8.out)
      have KQ_8 := Lib.hid (KQ_7.out.ext HD8.out)
      have KZ_8 := Lib.hid (KZ_7.out.ext HD8.out)
      have KY_8 := Lib.hid ((blk_new0 w7 37 [.string s0, .int .i64 (z0 - n)]).ext hE)
      have HE8 := Lib.hid (HE7.out.trans' HD8.out)
      clear hE cA0 aA0 cA1 aA1 cB0 aB0 cB1 aB1 cP0 aP0 cP1 aP1 cQ0 aQ0 cQ1 aQ1 cZ0 aZ0 cZ1 aZ1
      go_wp2
      go_ret
      exact ⟨rfl, EW.out.trans' HE8.out⟩
    · have dn : decide (n ≤ z0) = false := by simpa using hmn
      go_wp2_with (fail)
      go_at_call 44
      refine (iAddAmount s0 z0 n _ (by omega) (by omega)).mono ?_
      rintro e w6 ⟨rfl, hE⟩
      have HD6 := Lib.hid (show Ext w5 w6 from (ext1 _ _).trans' hE)
      have KA_6 := Lib.hid (KA_5.out.ext HD6.out)
      have KB_6 := Lib.hid (KB_5.out.ext HD6.out)
      have KP_6 := Lib.hid (KP_5.out.ext HD6.out)
      have KQ_6 := Lib.hid ((blk_new0 w5 37 [.string ⟨#[]⟩, .int .i64 0]).ext hE)
      have HE6 := Lib.hid (HE5.out.trans' HD6.out)
      clear hE cA0 aA0 cA1 aA1 cB0 aB0 cB1 aB1 cP0 aP0 cP1 aP1
      have cA0 : w6.cell? ⟨w.heap.size, 0, none⟩ = some (.string s0) := (KA_6.out.cell 0).trans rfl
      have aA0 : ∀ o : Obj, (w6.alloc o).cell? ⟨w.heap.size, 0, none⟩ = some (.string s0) := fun o => ((KA_6.out.alloc o).cell 0).trans rfl
      have cA1 : w6.cell? ⟨w.heap.size, 1, none⟩ = some (.int .i64 z0) := (KA_6.out.cell 1).trans rfl
      have aA1 : ∀ o : Obj, (w6.alloc o).cell? ⟨w.heap.size, 1, none⟩ = some (.int .i64 z0) := fun o => ((KA_6.out.alloc o).cell 1).trans rfl
      have cB0 : w6.cell? ⟨w.heap.size + 1, 0, none⟩ = some (.string s1) := (KB_6.out.cell 0).trans rfl
      have aB0 : ∀ o : Obj, (w6.alloc o).cell? ⟨w.heap.size + 1, 0, none⟩ = some (.string s1) := fun o => ((KB_6.out.alloc o).cell 0).trans rfl
      have cB1 : w6.cell? ⟨w.heap.size + 1, 1, none⟩ = some (.int .i64 z1) := (KB_6.out.cell 1).trans rfl
      have aB1 : ∀ o : Obj, (w6.alloc o).cell? ⟨w.heap.size + 1, 1, none⟩ = some (.int .i64 z1) := fun o => ((KB_6.out.alloc o).cell 1).trans rfl
      have cP0 : w6.cell? ⟨w4.heap.size, 0, none⟩ = some (.string ⟨#[]⟩) := (KP_6.out.cell 0).trans rfl
      have aP0 : ∀ o : Obj, (w6.alloc o).cell? ⟨w4.heap.size, 0, none⟩ = some (.string ⟨#[]⟩) := fun o => ((KP_6.out.alloc o).cell 0).trans rfl
      have cP1 : w6.cell? ⟨w4.heap.size, 1, none⟩ = some (.int .i64 0) := (KP_6.out.cell 1).trans rfl
      have aP1 : ∀ o : Obj, (w6.alloc o).cell? ⟨w4.heap.size, 1, none⟩ = some (.int .i64 0) := fun o => ((KP_6.out.alloc o).cell 1).trans rfl
      have cQ0 : w6.cell? ⟨w5.heap.size, 0, none⟩ = some (.string ⟨#[]⟩) := (KQ_6.out.cell 0).trans rfl
      have aQ0 : ∀ o : Obj, (w6.alloc o).cell? ⟨w5.heap.size, 0, none⟩ = some (.string ⟨#[]⟩) := fun o => ((KQ_6.out.alloc o).cell 0).trans rfl
      have cQ1 : w6.cell? ⟨w5.heap.size, 1, none⟩ = some (.int .i64 0) := (KQ_6.out.cell 1).trans rfl
      have aQ1 : ∀ o : Obj, (w6.alloc o).cell? ⟨w5.heap.size, 1, none⟩ = some (.int .i64 0) := fun o => ((KQ_6.out.alloc o).cell 1).trans rfl
      go_wp2_with (fail)
      go_at_call 45
      refine (iSubAmountNo s0 z0 n _ (by omega) (by omega) (by omega)).mono ?_
      rintro e w7 ⟨rfl, hE⟩
      have HD7 := Lib.hid (show Ext w6 w7 from (ext1 _ _).trans' hE)
      have KA_7 := Lib.hid (KA_6.out.ext HD7.out)
      have KB_7 := Lib.hid (KB_6.out.ext HD7.out)
      have KP_7 := Lib.hid (KP_6.out.ext HD7.out)
      have KQ_7 := Lib.hid (KQ_6.out.ext HD7.out)
      have KZ_7 := Lib.hid ((blk_new0 w6 37 [.string s0, .int .i64 (z0 + n)]).ext hE)
      have HE7 := Lib.hid (HE6.out.trans' HD7.out)
      clear hE cA0 aA0 cA1 aA1 cB0 aB0 cB1 aB1 cP0 aP0 cP1 aP1 cQ0 aQ0 cQ1 aQ1
      have cA0 : w7.cell? ⟨w.heap.size, 0, none⟩ = some (.string s0) := (KA_7.out.cell 0).trans rfl
      have aA0 : ∀ o : Obj, (w7.alloc o).cell? ⟨w.heap.size, 0, none⟩ = some (.string s0) := fun o => ((KA_7.out.alloc o).cell 0).trans rfl
      have cA1 : w7.cell? ⟨w.heap.size, 1, none⟩ = some (.int .i64 z0) := (KA_7.out.cell 1).trans rfl
      have aA1 : ∀ o : Obj, (w7.alloc o).cell? ⟨w.heap.size, 1, none⟩ = some (.int .i64 z0) := fun o => ((KA_7.out.alloc o).cell 1).trans rfl
      have cB0 : w7.cell? ⟨w.heap.size + 1, 0, none⟩ = some (.string s1) := (KB_7.out.cell 0).trans rfl
      have aB0 : ∀ o : Obj, (w7.alloc o).cell? ⟨w.heap.size + 1, 0, none⟩ = some (.string s1) := fun o => ((KB_7.out.alloc o).cell 0).trans rfl
      have cB1 : w7.cell? ⟨w.heap.size + 1, 1, none⟩ = some (.int .i64 z1) := (KB_7.out.cell 1).trans rfl
      have aB1 : ∀ o : Obj, (w7.alloc o).cell? ⟨w.heap.size + 1, 1, none⟩ = some (.int .i64 z1) := fun o => ((KB_7.out.alloc o).cell 1).trans rfl
      have cP0 : w7.cell? ⟨w4.heap.size, 0, none⟩ = some (.string ⟨#[]⟩) := (KP_7.out.cell 0).trans rfl
      have aP0 : ∀ o : Obj, (w7.alloc o).cell? ⟨w4.heap.size, 0, none⟩ = some (.string ⟨#[]⟩) := fun o => ((KP_7.out.alloc o).cell 0).trans rfl
      have cP1 : w7.cell? ⟨w4.heap.size, 1, none⟩ = some (.int .i64 0) := (KP_7.out.cell 1).trans rfl
      have aP1 : ∀ o : Obj, (w7.alloc o).cell? ⟨w4.heap.size, 1, none⟩ = some (.int .i64 0) := fun o => ((KP_7.out.alloc o).cell 1).trans rfl
      have cQ0 : w7.cell? ⟨w5.heap.size, 0, none⟩ = some (.string ⟨#[]⟩) := (KQ_7.out.cell 0).trans rfl
      have aQ0 : ∀ o : Obj, (w7.alloc o).cell? ⟨w5.heap.size, 0, none⟩ = some (.string ⟨#[]⟩) := fun o => ((KQ_7.out.alloc o).cell 0).trans rfl
      have cQ1 : w7.cell? ⟨w5.heap.size, 1, none⟩ = some (.int .i64 0) := (KQ_7.out.cell 1).trans rfl
      have aQ1 : ∀ o : Obj, (w7.alloc o).cell? ⟨w5.heap.size, 1, none⟩ = some (.int .i64 0) := fun o => ((KQ_7.out.alloc o).cell 1).trans rfl
      have cZ0 : w7.cell? ⟨w6.heap.size, 0, none⟩ = some (.string s0) := (KZ_7.out.cell 0).trans rfl
      have aZ0 : ∀ o : Obj, (w7.alloc o).cell? ⟨w6.heap.size, 0, none⟩ = some (.string s0) := fun o => ((KZ_7.out.alloc o).cell 0).trans rfl
      have cZ1 : w7.cell? ⟨w6.heap.size, 1, none⟩ = some (.int .i64 (z0 + n)) := (KZ_7.out.cell 1).trans rfl
      have aZ1 : ∀ o : Obj, (w7.alloc o).cell? ⟨w6.heap.size, 1, none⟩ = some (.int .i64 (z0 + n)) := fun o => ((KZ_7.out.alloc o).cell 1).trans rfl
      go_wp2_with (fail)
      go_at_call 24
      refine (sumAwake _).mono ?_
      rintro e w8 ⟨rfl, hE⟩
      have HD8 := Lib.hid (show Ext w7 w8 from (ext1 _ _).trans' hE)
      have KA_8 := Lib.hid (KA_7.out.ext HD8.out)
      have KB_8 := Lib.hid (KB_7.out.ext HD8.out)
      have KP_8 := Lib.hid (KP_7.out.ext HD8.out)
      have KQ_8 := Lib.hid (KQ_7.out.ext HD8.out)
      have KZ_8 := Lib.hid (KZ_7.out.ext HD8.out)
      have KY_8 := Lib.hid ((blk_new0 w7 37 [.string ⟨#[]⟩, .int .i64 0]).ext hE)
      have HE8 := Lib.hid (HE7.out.trans' HD8.out)
      clear hE cA0 aA0 cA1 aA1 cB0 aB0 cB1 aB1 cP0 aP0 cP1 aP1 cQ0 aQ0 cQ1 aQ1 cZ0 aZ0 cZ1 aZ1
      go_wp2
      go_ret
      exact ⟨rfl, EW.out.trans' HE8.out⟩
end Go.Proofs.YtagfbefgcijegaaGreatDoor
