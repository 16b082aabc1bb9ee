/-
  The contracts of Coins.IsAllGT, IsAllLT, IsAllLTE of sets.
-/
import Derived.Test.YtagfbefgcijegaaGreatDoorCmp2
namespace Go.Proofs.YtagfbefgcijegaaGreatDoor
open Go Go.RowKit
theorem ext_set {a w : World} (e : Ext a w) (g i : Nat) (v : Value) (hg : a.heap.size ≤ g) : Ext a (w.setCell ⟨g, i, none⟩ v) := Only.ext e ((Only.refl g w).set_ i v) hg
theorem big_set2 {w : World} {b g h : Nat} {z : Int} {u u' : Value} (hb : BigAt w b z) (k : Blk w g 79 [u]) (k' : Blk w h 79 [u']) (hne : g ≠ h) {v v' : Value} : BigAt ((w.setCell ⟨g, 0, none⟩ v).setCell ⟨h, 0, none⟩ v') b z :=
  (hb.set_ k 0 v).set_ (show Blk _ h 79 [u'] from (Below.heap_setCell w _ v h (fun e => hne e.symm)).trans k') 0 v'
theorem not_sub {w : World} {A B : Option Addr} {n c m d : Nat} {la lb : List Co} (hA : SetAt w A n c la) (hB : SetAt w B m d lb) (hpos : ∀ x ∈ lb, 0 < x.z) (h : (decide (m ≤ n) && lb.all fun x => decide (totC x.s la ≠ 0)) = false) :
    (lb.all fun x : Co => decide (x.z < totC x.s la)) = false := by
  rw [Bool.eq_false_iff]
  intro hall
  rw [List.all_eq_true] at hall
  have h1 : ∀ x ∈ lb, totC x.s la ≠ 0 := fun x hx => by have := hall x hx; rw [decide_eq_true_iff] at this; have := hpos x hx; omega
  have h2 : (lb.all fun x => decide (totC x.s la ≠ 0)) = true := by rw [List.all_eq_true]; intro x hx; exact decide_eq_true (h1 x hx)
  rw [h2, Bool.and_true, decide_eq_false_iff_not] at h
  have hn : (lb.map Co.s).Nodup := by
    have := strict_nodup (strict_keys hB.strict)
    rw [List.map_map] at this; exact this
  have := List.Nodup.length_le_of_subset hn (l₂ := la.map Co.s) fun s hs => by
    obtain ⟨x, hx, rfl⟩ := List.mem_map.1 hs
    have h3 := h1 x hx
    rcases Classical.em (∃ y ∈ la, y.s = x.s) with ⟨y, hy, e⟩ | hno
    · exact List.mem_map.2 ⟨y, hy, e⟩
    · refine absurd (totalP_none fun z hz e => hno ?_) h3
      obtain ⟨y, hy, rfl⟩ := List.mem_map.1 hz
      exact ⟨y, hy, e⟩
  rw [List.length_map, List.length_map, hB.len, hA.len] at this
  exact h this

set_option maxRecDepth 100000 in
set_option maxHeartbeats 4000000 in
theorem tIsAllGT (A B : Option Addr) (n c m d : Nat) (la lb : List Co) (w : World) (hA : SetAt w A n c la) (hB : SetAt w B m d lb) (hpos : ∀ x ∈ lb, 0 < x.z) :
    Calls Tryz.prog 113 #[.slice A n c, .slice B m d] w (RetE (.bool (!la.isEmpty && lb.all fun x : Co => decide (x.z < totC x.s la))) w) := by
  have HA := Lib.hid hA; have HB := Lib.hid hB
  have hn1 := hA.small; have hm1 := hB.small
  clear hA hB
  by_cases h1 : n = 0
  · obtain rfl : la = [] := List.length_eq_zero_iff.1 (by rw [HA.out.len]; exact h1)
    have e0 : (!([] : List Co).isEmpty) = false := rfl
    rw [e0, Bool.false_and]
    subst h1
    go_enter Tryz.func113, Tryz.ntmps113
    go_wp2
    go_ret
    exact ⟨rfl, Ext.refl _⟩
  have d1 : ((n : Int) == 0) = false := by simp; omega
  have e0 : (!la.isEmpty) = true := by
    cases la with
    | nil => exact absurd HA.out.len (by simp; omega)
    | cons x l => rfl
  rw [e0, Bool.true_and]
  clear e0
  by_cases h0 : m = 0
  · obtain rfl : lb = [] := List.length_eq_zero_iff.1 (by rw [HB.out.len]; exact h0)
    subst h0
    go_enter Tryz.func113, Tryz.ntmps113
    go_wp2
    go_ret
    exact ⟨rfl, Ext.refl _⟩
  have d0 : ((m : Int) == 0) = false := by simp; omega
  clear h0 h1
  obtain ⟨r, hr⟩ : ∃ r, r = (lb.all fun x : Co => decide (x.z < totC x.s la)) := ⟨_, rfl⟩
  rw [← hr]
  have HR := Lib.hid hr; clear hr
  have HSB := Lib.hid (tDenomsSubsetOf B A m d n c lb la w HB.out HA.out)
  cases hsub : (decide (m ≤ n) && lb.all fun x => decide (totC x.s la ≠ 0))
  · have HSU := Lib.hid hsub
    rw [hsub] at HSB
    clear hsub
    go_enter Tryz.func113, Tryz.ntmps113
    go_wp2_with (fail)
    go_at_call 119
    refine HSB.out.mono ?_
    rintro e w1 ⟨rfl, hE⟩
    have HE1 := Lib.hid hE; clear hE
    go_wp2
    go_ret
    exact ⟨congrArg (fun q => Ending.returned (Value.bool q)) (HR.out.trans (not_sub HA.out HB.out hpos HSU.out)).symm, HE1.out⟩
  rw [hsub] at HSB
  clear hsub
  go_enter Tryz.func113, Tryz.ntmps113
  go_wp2_with (fail)
  go_at_call 119
  refine HSB.out.mono ?_
  rintro e w0 ⟨rfl, hE⟩
  have HE0 := Lib.hid hE; clear hE
  go_wp2_with (fail)
  go_loopw [21] (fun i wr => ∃ (k : Nat), k ≤ m ∧ i = .int .i64 k ∧ (∀ x ∈ lb.take k, (fun x : Co => decide (x.z < totC x.s la)) x = true) ∧ Ext w wr) (fun i _ => m - (intOf i).toNat)
  case atStart => exact ⟨0, Nat.zero_le _, rfl, (fun x hx => by simp at hx), HE0.out⟩
  case round =>
    obtain ⟨k, hk, rfl, hq, hE⟩ := hrel
    have HQ := Lib.hid hq; have HE := Lib.hid hE
    clear hq hE
    by_cases hlt : k < m
    · have hkl : k < lb.length := by rw [HB.out.len]; exact hlt
      obtain ⟨s, hs⟩ : ∃ s, s = lb[k].s := ⟨_, rfl⟩
      obtain ⟨a, ha⟩ : ∃ b, b = lb[k].b := ⟨_, rfl⟩
      obtain ⟨z, hzz⟩ : ∃ z, z = lb[k].z := ⟨_, rfl⟩
      obtain ⟨g, o, hA, hc⟩ := HB.out.at_.1 (by intro e; have := congrArg List.length e; simp at this; rw [this] at hkl; simp at hkl)
      subst hA
      have hck := hc k (by simpa using hkl)
      have cs0 : wr.cell? ⟨g, o + k * 2, none⟩ = some (.string s) := HE.out.cell' (by rw [hck.1, hs]; simp [Co.pair])
      have cs1 : wr.cell? ⟨g, o + k * 2 + 1, none⟩ = some (.pointer (some ⟨a, 0, none⟩)) := HE.out.cell' (by rw [hck.2, ha]; simp [Co.pair])
      have HX := Lib.hid (show lb[k] = ⟨s, a, z⟩ by rw [hs, ha, hzz])
      have HBA := Lib.hid (show BigAt wr a z by rw [ha, hzz]; exact (HB.out.at_.2 _ (List.getElem_mem hkl)).ext HE.out)
      have HZ := Lib.hid (show z.natAbs < B64 by rw [hzz]; have := HB.out.abs _ (List.getElem_mem hkl); unfold B64; omega)
      have HAM := Lib.hid (fun (W : World) (e : Ext w W) => HA.out.amount s e)
      obtain ⟨y, hy⟩ : ∃ y, y = totC s la := ⟨_, rfl⟩
      have HY := Lib.hid hy; have HYB := Lib.hid (show y.natAbs < B64 by rw [hy]; exact HA.out.tot s)
      rw [← hy] at HAM
      have K0 := Lib.hid (blk_new0 wr 81 [.string s, .pointer (some ⟨a, 0, none⟩)])
      have b0 : (0 : Int) ≤ (k : Int) := by omega
      have b1 : (k : Int) < (m : Int) := by omega
      clear hs ha hzz hck hc hy
      obtain ⟨q, hq⟩ : ∃ q, q = decide (z < y) := ⟨_, rfl⟩
      have HG := Lib.hid (fun (W : World) (b : Nat) (h1 : BigAt W b y) (h2 : BigAt W a z) => mGT b a y z W h1 h2 HYB.out HZ.out)
      rw [cmp_gt, ← hq] at HG
      have HQ2 := Lib.hid hq; clear hq
      go_wp2_with (fail)
      go_region_law (first | (go_simp; go_at_call 80; refine (HAM.out ((wr.alloc (coinBox s a)).drew) (HE.out.trans' (show Ext wr (wr.alloc (coinBox s a)).drew from by exact Ext.trans' (Ext.alloc' _ _) (Ext.drewN' _ 1)))).mono ?_; rintro e w1 ⟨b, rfl, hB, hE⟩; have hW : Ext wr w1 := (show Ext wr (wr.alloc (coinBox s a)).drew from by exact Ext.trans' (Ext.alloc' _ _) (Ext.drewN' _ 1)).trans' hE; have HE1 := Lib.hid hW; have HBB := Lib.hid hB; obtain ⟨c0, c1, l0⟩ := cells_two2 ((K0.out.drewN 1).ext hE); clear hB hE hW) | (go_simp; go_at_call 80; refine (HAM.out (((wr.alloc (coinBox s a)).alloc (.cells #[.pointer none] 79 : Obj)).drew) (HE.out.trans' (show Ext wr ((wr.alloc (coinBox s a)).alloc (.cells #[.pointer none] 79 : Obj)).drew from by exact Ext.trans' ((Ext.alloc' _ _).trans' (Ext.alloc' _ _)) (Ext.drewN' _ 1)))).mono ?_; rintro e w1 ⟨b, rfl, hB, hE⟩; have hW : Ext wr w1 := (show Ext wr ((wr.alloc (coinBox s a)).alloc (.cells #[.pointer none] 79 : Obj)).drew from by exact Ext.trans' ((Ext.alloc' _ _).trans' (Ext.alloc' _ _)) (Ext.drewN' _ 1)).trans' hE; have HE1 := Lib.hid hW; have HBB := Lib.hid hB; obtain ⟨c0, c1, l0⟩ := cells_two2 (((K0.out.alloc _).drewN 1).ext hE); have kb0 : Blk w1 (wr.heap.size + 1) 79 [(.pointer none)] := (by have q := (((blk_new0 (wr.alloc (coinBox s a)) 79 [(.pointer none)])).drewN 1).ext hE; rw [show (wr.alloc (coinBox s a)).heap.size = wr.heap.size + 1 by simp] at q; exact q); have e0 : w1.cell? ⟨wr.heap.size + 1, 0, none⟩ = some (.pointer none) := (kb0.cell 0).trans rfl; have f0 := kb0.frozen 0; have m0 := cell_lt e0; have HKB0 := Lib.hid kb0; clear kb0; clear hB hE hW) | (go_simp; go_at_call 80; refine (HAM.out (((wr.alloc (coinBox s a)).alloc (intBox a)).drew) (HE.out.trans' (show Ext wr ((wr.alloc (coinBox s a)).alloc (intBox a)).drew from by exact Ext.trans' ((Ext.alloc' _ _).trans' (Ext.alloc' _ _)) (Ext.drewN' _ 1)))).mono ?_; rintro e w1 ⟨b, rfl, hB, hE⟩; have hW : Ext wr w1 := (show Ext wr ((wr.alloc (coinBox s a)).alloc (intBox a)).drew from by exact Ext.trans' ((Ext.alloc' _ _).trans' (Ext.alloc' _ _)) (Ext.drewN' _ 1)).trans' hE; have HE1 := Lib.hid hW; have HBB := Lib.hid hB; obtain ⟨c0, c1, l0⟩ := cells_two2 (((K0.out.alloc _).drewN 1).ext hE); have kb0 : Blk w1 (wr.heap.size + 1) 79 [(.pointer (some ⟨a, 0, none⟩))] := (by have q := (((blk_new0 (wr.alloc (coinBox s a)) 79 [(.pointer (some ⟨a, 0, none⟩))])).drewN 1).ext hE; rw [show (wr.alloc (coinBox s a)).heap.size = wr.heap.size + 1 by simp] at q; exact q); have e0 : w1.cell? ⟨wr.heap.size + 1, 0, none⟩ = some (.pointer (some ⟨a, 0, none⟩)) := (kb0.cell 0).trans rfl; have f0 := kb0.frozen 0; have m0 := cell_lt e0; have HKB0 := Lib.hid kb0; clear kb0; clear hB hE hW) | (go_simp; go_at_call 80; refine (HAM.out ((((wr.alloc (coinBox s a)).alloc (.cells #[.pointer none] 79 : Obj)).alloc (.cells #[.pointer none] 79 : Obj)).drew) (HE.out.trans' (show Ext wr (((wr.alloc (coinBox s a)).alloc (.cells #[.pointer none] 79 : Obj)).alloc (.cells #[.pointer none] 79 : Obj)).drew from by exact Ext.trans' (((Ext.alloc' _ _).trans' (Ext.alloc' _ _)).trans' (Ext.alloc' _ _)) (Ext.drewN' _ 1)))).mono ?_; rintro e w1 ⟨b, rfl, hB, hE⟩; have hW : Ext wr w1 := (show Ext wr (((wr.alloc (coinBox s a)).alloc (.cells #[.pointer none] 79 : Obj)).alloc (.cells #[.pointer none] 79 : Obj)).drew from by exact Ext.trans' (((Ext.alloc' _ _).trans' (Ext.alloc' _ _)).trans' (Ext.alloc' _ _)) (Ext.drewN' _ 1)).trans' hE; have HE1 := Lib.hid hW; have HBB := Lib.hid hB; obtain ⟨c0, c1, l0⟩ := cells_two2 ((((K0.out.alloc _).alloc _).drewN 1).ext hE); have kb0 : Blk w1 (wr.heap.size + 1) 79 [(.pointer none)] := (by have q := (((blk_new0 (wr.alloc (coinBox s a)) 79 [(.pointer none)]).alloc _).drewN 1).ext hE; rw [show (wr.alloc (coinBox s a)).heap.size = wr.heap.size + 1 by simp] at q; exact q); have e0 : w1.cell? ⟨wr.heap.size + 1, 0, none⟩ = some (.pointer none) := (kb0.cell 0).trans rfl; have f0 := kb0.frozen 0; have m0 := cell_lt e0; have HKB0 := Lib.hid kb0; clear kb0; have kb1 : Blk w1 (wr.heap.size + 1 + 1) 79 [(.pointer none)] := (by have q := (((blk_new0 ((wr.alloc (coinBox s a)).alloc (.cells #[.pointer none] 79 : Obj)) 79 [(.pointer none)])).drewN 1).ext hE; rw [show ((wr.alloc (coinBox s a)).alloc (.cells #[.pointer none] 79 : Obj)).heap.size = wr.heap.size + 1 + 1 by simp] at q; exact q); have e1 : w1.cell? ⟨wr.heap.size + 1 + 1, 0, none⟩ = some (.pointer none) := (kb1.cell 0).trans rfl; have f1 := kb1.frozen 0; have m1 := cell_lt e1; have HKB1 := Lib.hid kb1; clear kb1; clear hB hE hW) | (go_simp; go_at_call 80; refine (HAM.out ((((wr.alloc (coinBox s a)).alloc (.cells #[.pointer none] 79 : Obj)).alloc (intBox a)).drew) (HE.out.trans' (show Ext wr (((wr.alloc (coinBox s a)).alloc (.cells #[.pointer none] 79 : Obj)).alloc (intBox a)).drew from by exact Ext.trans' (((Ext.alloc' _ _).trans' (Ext.alloc' _ _)).trans' (Ext.alloc' _ _)) (Ext.drewN' _ 1)))).mono ?_; rintro e w1 ⟨b, rfl, hB, hE⟩; have hW : Ext wr w1 := (show Ext wr (((wr.alloc (coinBox s a)).alloc (.cells #[.pointer none] 79 : Obj)).alloc (intBox a)).drew from by exact Ext.trans' (((Ext.alloc' _ _).trans' (Ext.alloc' _ _)).trans' (Ext.alloc' _ _)) (Ext.drewN' _ 1)).trans' hE; have HE1 := Lib.hid hW; have HBB := Lib.hid hB; obtain ⟨c0, c1, l0⟩ := cells_two2 ((((K0.out.alloc _).alloc _).drewN 1).ext hE); have kb0 : Blk w1 (wr.heap.size + 1) 79 [(.pointer none)] := (by have q := (((blk_new0 (wr.alloc (coinBox s a)) 79 [(.pointer none)]).alloc _).drewN 1).ext hE; rw [show (wr.alloc (coinBox s a)).heap.size = wr.heap.size + 1 by simp] at q; exact q); have e0 : w1.cell? ⟨wr.heap.size + 1, 0, none⟩ = some (.pointer none) := (kb0.cell 0).trans rfl; have f0 := kb0.frozen 0; have m0 := cell_lt e0; have HKB0 := Lib.hid kb0; clear kb0; have kb1 : Blk w1 (wr.heap.size + 1 + 1) 79 [(.pointer (some ⟨a, 0, none⟩))] := (by have q := (((blk_new0 ((wr.alloc (coinBox s a)).alloc (.cells #[.pointer none] 79 : Obj)) 79 [(.pointer (some ⟨a, 0, none⟩))])).drewN 1).ext hE; rw [show ((wr.alloc (coinBox s a)).alloc (.cells #[.pointer none] 79 : Obj)).heap.size = wr.heap.size + 1 + 1 by simp] at q; exact q); have e1 : w1.cell? ⟨wr.heap.size + 1 + 1, 0, none⟩ = some (.pointer (some ⟨a, 0, none⟩)) := (kb1.cell 0).trans rfl; have f1 := kb1.frozen 0; have m1 := cell_lt e1; have HKB1 := Lib.hid kb1; clear kb1; clear hB hE hW) | (go_simp; go_at_call 80; refine (HAM.out ((((wr.alloc (coinBox s a)).alloc (intBox a)).alloc (.cells #[.pointer none] 79 : Obj)).drew) (HE.out.trans' (show Ext wr (((wr.alloc (coinBox s a)).alloc (intBox a)).alloc (.cells #[.pointer none] 79 : Obj)).drew from by exact Ext.trans' (((Ext.alloc' _ _).trans' (Ext.alloc' _ _)).trans' (Ext.alloc' _ _)) (Ext.drewN' _ 1)))).mono ?_; rintro e w1 ⟨b, rfl, hB, hE⟩; have hW : Ext wr w1 := (show Ext wr (((wr.alloc (coinBox s a)).alloc (intBox a)).alloc (.cells #[.pointer none] 79 : Obj)).drew from by exact Ext.trans' (((Ext.alloc' _ _).trans' (Ext.alloc' _ _)).trans' (Ext.alloc' _ _)) (Ext.drewN' _ 1)).trans' hE; have HE1 := Lib.hid hW; have HBB := Lib.hid hB; obtain ⟨c0, c1, l0⟩ := cells_two2 ((((K0.out.alloc _).alloc _).drewN 1).ext hE); have kb0 : Blk w1 (wr.heap.size + 1) 79 [(.pointer (some ⟨a, 0, none⟩))] := (by have q := (((blk_new0 (wr.alloc (coinBox s a)) 79 [(.pointer (some ⟨a, 0, none⟩))]).alloc _).drewN 1).ext hE; rw [show (wr.alloc (coinBox s a)).heap.size = wr.heap.size + 1 by simp] at q; exact q); have e0 : w1.cell? ⟨wr.heap.size + 1, 0, none⟩ = some (.pointer (some ⟨a, 0, none⟩)) := (kb0.cell 0).trans rfl; have f0 := kb0.frozen 0; have m0 := cell_lt e0; have HKB0 := Lib.hid kb0; clear kb0; have kb1 : Blk w1 (wr.heap.size + 1 + 1) 79 [(.pointer none)] := (by have q := (((blk_new0 ((wr.alloc (coinBox s a)).alloc (intBox a)) 79 [(.pointer none)])).drewN 1).ext hE; rw [show ((wr.alloc (coinBox s a)).alloc (intBox a)).heap.size = wr.heap.size + 1 + 1 by simp] at q; exact q); have e1 : w1.cell? ⟨wr.heap.size + 1 + 1, 0, none⟩ = some (.pointer none) := (kb1.cell 0).trans rfl; have f1 := kb1.frozen 0; have m1 := cell_lt e1; have HKB1 := Lib.hid kb1; clear kb1; clear hB hE hW))
      all_goals (go_wp2_with (fail))
      all_goals (
        go_at_call 133
        refine (HG.out _ b ?hb ?ha).mono ?_
        case hb => first | (with_reducible exact HBB.out.ext ((Ext.alloc' _ _).trans' (Ext.alloc' _ _))) | (with_reducible exact HBB.out.ext (Ext.alloc' _ _)) | (with_reducible exact (HBB.out.set_ HKB0.out 0 _).ext (Ext.alloc' _ _)) | (with_reducible exact HBB.out.set_ HKB0.out 0 _) | (with_reducible exact HBB.out.set_ HKB1.out 0 _) | (with_reducible exact big_set2 HBB.out HKB0.out HKB1.out (by omega)) | (with_reducible exact big_set2 HBB.out HKB1.out HKB0.out (by omega))
        case ha => refine HBA.out.ext ?_; repeat (first | (with_reducible exact HE1.out) | (with_reducible refine Ext.trans' ?_ (Ext.alloc' _ _)) | (with_reducible refine ext_set ?_ _ 0 _ (by omega)))
        rintro e w2 ⟨rfl, hE⟩
        have HE2 := Lib.hid (show Ext wr w2 by refine Ext.trans' ?_ hE; repeat (first | (with_reducible exact HE1.out) | (with_reducible refine Ext.trans' ?_ (Ext.alloc' _ _)) | (with_reducible refine ext_set ?_ _ 0 _ (by omega))))
        clear hE
        cases q)
      all_goals go_wp2
      all_goals first
        | (go_ret; exact ⟨congrArg (fun q => Ending.returned (Value.bool q)) (HR.out.trans (all_take hkl (P := fun x : Co => decide (x.z < totC x.s la)) (by rw [HX.out]; dsimp only; rw [← HY.out]; exact HQ2.out.symm))).symm, HE.out.trans' HE2.out⟩)
        | exact ⟨⟨k + 1, by omega, by go_num, take_step hkl HQ.out (by rw [HX.out]; dsimp only; rw [← HY.out]; exact HQ2.out.symm), HE.out.trans' HE2.out⟩, by simp [intOf]; omega⟩
    · obtain rfl : k = m := by omega
      have HALL := Lib.hid (show lb.all (fun x : Co => decide (x.z < totC x.s la)) = true from all_full (by rw [HB.out.len]; exact HQ.out))
      go_wp2
      go_ret
      exact ⟨congrArg (fun q => Ending.returned (Value.bool q)) (HR.out.trans HALL.out).symm, HE.out⟩
end Go.Proofs.YtagfbefgcijegaaGreatDoor
