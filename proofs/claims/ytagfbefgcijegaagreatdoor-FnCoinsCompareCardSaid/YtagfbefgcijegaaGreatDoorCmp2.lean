/-
  The contracts of the comparisons of sets: Coins.DenomsSubsetOf, IsAllGT, IsAllGTE, IsAnyGT, IsAnyGTE.
-/
import Derived.Test.YtagfbefgcijegaaGreatDoorGG
import Derived.Test.YtagfbefgcijegaaGreatDoorGK
import Derived.Test.YtagfbefgcijegaaGreatDoorGI
namespace Go.Proofs.YtagfbefgcijegaaGreatDoor
open Go Go.RowKit

/-- A list of coins in order, with small amounts. -/
structure SetAt (w : World) (A : Option Addr) (n c : Nat) (l : List Co) : Prop where
  len : l.length = n
  small : n ≤ 1000
  cap : n ≤ c
  capm : c ≤ 9223372036854775807
  at_ : CoinsAt w A l
  strict : (l.map Co.val).Pairwise fun a b => keyLt a.1 b.1 = true
  abs : ∀ x ∈ l, x.z.natAbs ≤ 1125899906842624
theorem SetAt.ext {w w' : World} {A : Option Addr} {n c : Nat} {l : List Co} (h : SetAt w A n c l) (e : Ext w w') : SetAt w' A n c l := ⟨h.len, h.small, h.cap, h.capm, h.at_.ext e, h.strict, h.abs⟩
def totC (s : ByteArray) (l : List Co) : Int := totalP s (l.map Co.val)
theorem SetAt.tot {w : World} {A : Option Addr} {n c : Nat} {l : List Co} (h : SetAt w A n c l) (s : ByteArray) : (totC s l).natAbs < B64 := by
  have := total_abs (m := 1125899906842624) h.strict (fun x hx => by obtain ⟨y, hy, rfl⟩ := List.mem_map.1 hx; exact h.abs y hy) s
  unfold totC B64; omega
theorem SetAt.amount {w W : World} {A : Option Addr} {n c : Nat} {l : List Co} (h : SetAt w A n c l) (s : ByteArray) (e : Ext w W) :
    Calls Tryz.prog 80 #[.slice A n c, .string s] W (RetInt (totC s l) W) :=
  tAmountOf A n c l (l.map Co.val) s W h.len (by have := h.small; omega) h.cap h.capm (h.at_.ext e) rfl h.strict
theorem all_take {l : List Co} {P : Co → Bool} {k : Nat} (hk : k < l.length) (h : P l[k] = false) : l.all P = false := by
  rw [List.all_eq_false]; exact ⟨l[k], List.getElem_mem hk, by simp [h]⟩
theorem all_full {l : List Co} {P : Co → Bool} (h : ∀ x ∈ l.take l.length, P x = true) : l.all P = true := by
  rw [List.all_eq_true]; rw [List.take_length] at h; exact h
theorem take_step {l : List Co} {P : Co → Bool} {k : Nat} (hk : k < l.length) (h : ∀ x ∈ l.take k, P x = true) (h2 : P l[k] = true) : ∀ x ∈ l.take (k + 1), P x = true := by
  intro x hx
  rw [List.take_succ_eq_append_getElem hk, List.mem_append, List.mem_singleton] at hx
  rcases hx with hx | rfl
  · exact h x hx
  · exact h2
theorem cells_two2 {W : World} {g : Nat} {T : TypeId} {u v : Value} (h : Blk W g T [u, v]) : W.cell? ⟨g, 0, none⟩ = some u ∧ W.cell? ⟨g, 1, none⟩ = some v ∧ g < W.heap.size :=
  ⟨(h.cell 0).trans rfl, (h.cell 1).trans rfl, cell_lt ((h.cell 0).trans rfl)⟩

set_option maxRecDepth 100000 in
set_option maxHeartbeats 4000000 in
theorem tDenomsSubsetOf (A B : Option Addr) (n c m d : Nat) (la lb : List Co) (w : World) (hA : SetAt w A n c la) (hB : SetAt w B m d lb) :
    Calls Tryz.prog 119 #[.slice A n c, .slice B m d] w (RetE (.bool (decide (n ≤ m) && la.all fun x => decide (totC x.s lb ≠ 0))) w) := by
  have HA := Lib.hid hA; have HB := Lib.hid hB
  have hn1 := hA.small; have hm1 := hB.small
  clear hA hB
  by_cases h0 : m < n
  · have d0 : decide ((m : Int) < (n : Int)) = true := by simp; omega
    have e0 : decide (n ≤ m) = false := by rw [decide_eq_false_iff_not]; omega
    rw [e0]
    go_enter Tryz.func119, Tryz.ntmps119
    go_wp2
    go_ret
    exact ⟨rfl, Ext.refl _⟩
  have d0 : decide ((m : Int) < (n : Int)) = false := by simp; omega
  have e0 : decide (n ≤ m) = true := by rw [decide_eq_true_iff]; omega
  rw [e0, Bool.true_and]
  obtain ⟨r, hr⟩ : ∃ r, r = (la.all fun x : Co => decide (totC x.s lb ≠ 0)) := ⟨_, rfl⟩
  rw [← hr]
  have HR := Lib.hid hr; clear hr
  go_enter Tryz.func119, Tryz.ntmps119
  go_wp2_with (fail)
  go_loopw [14] (fun i wr => ∃ (k : Nat), k ≤ n ∧ i = .int .i64 k ∧ (∀ x ∈ la.take k, (fun x : Co => decide (totC x.s lb ≠ 0)) x = true) ∧ Ext w wr) (fun i _ => n - (intOf i).toNat)
  case atStart => exact ⟨0, Nat.zero_le _, rfl, (fun x hx => by simp at hx), Ext.refl _⟩
  case round =>
    obtain ⟨k, hk, rfl, hq, hE⟩ := hrel
    have HQ := Lib.hid hq; have HE := Lib.hid hE
    clear hq hE
    by_cases hlt : k < n
    · have hkl : k < la.length := by rw [HA.out.len]; exact hlt
      obtain ⟨s, hs⟩ : ∃ s, s = la[k].s := ⟨_, rfl⟩
      obtain ⟨a, ha⟩ : ∃ b, b = la[k].b := ⟨_, rfl⟩
      obtain ⟨z, hzz⟩ : ∃ z, z = la[k].z := ⟨_, rfl⟩
      obtain ⟨g, o, hA, hc⟩ := HA.out.at_.1 (by intro e; have := congrArg List.length e; simp at this; rw [this] at hkl; simp at hkl)
      subst hA
      have hck := hc k (by simpa using hkl)
      have cs0 : wr.cell? ⟨g, o + k * 2, none⟩ = some (.string s) := HE.out.cell' (by rw [hck.1, hs]; simp [Co.pair])
      have cs1 : wr.cell? ⟨g, o + k * 2 + 1, none⟩ = some (.pointer (some ⟨a, 0, none⟩)) := HE.out.cell' (by rw [hck.2, ha]; simp [Co.pair])
      have HX := Lib.hid (show la[k] = ⟨s, a, z⟩ by rw [hs, ha, hzz])
      have HBA := Lib.hid (show BigAt wr a z by rw [ha, hzz]; exact (HA.out.at_.2 _ (List.getElem_mem hkl)).ext HE.out)
      have HZ := Lib.hid (show z.natAbs < B64 by rw [hzz]; have := HA.out.abs _ (List.getElem_mem hkl); unfold B64; omega)
      have HAM := Lib.hid (fun (W : World) (e : Ext w W) => HB.out.amount s e)
      obtain ⟨y, hy⟩ : ∃ y, y = totC s lb := ⟨_, rfl⟩
      have HY := Lib.hid hy; have HYB := Lib.hid (show y.natAbs < B64 by rw [hy]; exact HB.out.tot s)
      rw [← hy] at HAM
      have K0 := Lib.hid (blk_new0 wr 81 [.string s, .pointer (some ⟨a, 0, none⟩)])
      have b0 : (0 : Int) ≤ (k : Int) := by omega
      have b1 : (k : Int) < (n : Int) := by omega
      clear hs ha hzz hck hc hy
      go_wp2_with (fail)
      go_at_call 80
      refine (HAM.out _ (HE.out.trans' (Ext.alloc' _ _))).mono ?_
      rintro e w1 ⟨b, rfl, hB, hE⟩
      have hE1 := (Ext.alloc' wr (coinBox s a)).trans' hE
      have HE1 := Lib.hid hE1; have HBB := Lib.hid hB
      obtain ⟨c0, c1, l0⟩ := cells_two2 (K0.out.ext hE)
      clear hB hE hE1
      have HIZ := Lib.hid (mIsZero b y w1 HBB.out)
      rw [sgn_zero] at HIZ
      by_cases h0 : y = 0
      · rw [decide_eq_true h0] at HIZ
        have H0 := Lib.hid h0; clear h0
        go_wp2_with (fail)
        go_at_call 148
        refine HIZ.out.mono ?_
        rintro e w2 ⟨rfl, hE⟩
        have HE2 := Lib.hid (HE1.out.trans' hE); clear hE
        go_wp2
        go_ret
        exact ⟨congrArg (fun q => Ending.returned (Value.bool q)) (HR.out.trans (all_take hkl (P := fun x : Co => decide (totC x.s lb ≠ 0)) (by rw [HX.out]; dsimp only; rw [← HY.out, H0.out]; rfl))).symm, HE.out.trans' HE2.out⟩
      · rw [decide_eq_false h0] at HIZ
        have H0 := Lib.hid h0; clear h0
        go_wp2_with (fail)
        go_at_call 148
        refine HIZ.out.mono ?_
        rintro e w2 ⟨rfl, hE⟩
        have HE2 := Lib.hid (HE1.out.trans' hE); clear hE
        go_wp2
        go_roundw
        case rel => exact ⟨k + 1, by omega, by go_num, take_step hkl HQ.out (by rw [HX.out]; dsimp only; rw [← HY.out]; exact decide_eq_true H0.out), HE.out.trans' HE2.out⟩
        case measure => simp [intOf]; omega
    · obtain rfl : k = n := by omega
      have HALL := Lib.hid (show la.all (fun x : Co => decide (totC x.s lb ≠ 0)) = true from all_full (by rw [HA.out.len]; exact HQ.out))
      go_wp2
      go_ret
      exact ⟨congrArg (fun q => Ending.returned (Value.bool q)) (HR.out.trans HALL.out).symm, HE.out⟩

set_option maxRecDepth 100000 in
set_option maxHeartbeats 4000000 in
theorem tIsAllGTE (A B : Option Addr) (n c m d : Nat) (la lb : List Co) (w : World) (hA : SetAt w A n c la) (hB : SetAt w B m d lb) (hpos : ∀ x ∈ lb, 0 < x.z) :
    Calls Tryz.prog 114 #[.slice A n c, .slice B m d] w (RetE (.bool (lb.all fun x => decide (x.z ≤ totC x.s la))) w) := by
  have HA := Lib.hid hA; have HB := Lib.hid hB
  have hn1 := hA.small; have hm1 := hB.small
  clear hA hB
  by_cases h0 : m = 0
  · obtain rfl : lb = [] := List.length_eq_zero_iff.1 (by rw [HB.out.len]; exact h0)
    subst h0
    go_enter Tryz.func114, Tryz.ntmps114
    go_wp2
    go_ret
    exact ⟨rfl, Ext.refl _⟩
  have d0 : ((m : Int) == 0) = false := by simp; omega
  by_cases h1 : n = 0
  · obtain rfl : la = [] := List.length_eq_zero_iff.1 (by rw [HA.out.len]; exact h1)
    have HF := Lib.hid (show (lb.all fun x => decide (x.z ≤ totC x.s [])) = false from by
      have hm : 0 < lb.length := by have := HB.out.len; omega
      exact all_take hm (decide_eq_false (by have := hpos lb[0] (List.getElem_mem hm); rw [show totC lb[0].s [] = 0 from rfl]; omega)))
    rw [HF.out]
    subst h1
    clear hpos
    go_enter Tryz.func114, Tryz.ntmps114
    go_wp2
    go_ret
    exact ⟨rfl, Ext.refl _⟩
  have d1 : ((n : Int) == 0) = false := by simp; omega
  clear h0 h1 hpos
  obtain ⟨r, hr⟩ : ∃ r, r = (lb.all fun x : Co => decide (x.z ≤ totC x.s la)) := ⟨_, rfl⟩
  rw [← hr]
  have HR := Lib.hid hr; clear hr
  go_enter Tryz.func114, Tryz.ntmps114
  go_wp2_with (fail)
  go_loopw [15] (fun i wr => ∃ (k : Nat), k ≤ m ∧ i = .int .i64 k ∧ (∀ x ∈ lb.take k, (fun x : Co => decide (x.z ≤ totC x.s la)) x = true) ∧ Ext w wr) (fun i _ => m - (intOf i).toNat)
  case atStart => exact ⟨0, Nat.zero_le _, rfl, (fun x hx => by simp at hx), Ext.refl _⟩
  case round =>
    obtain ⟨k, hk, rfl, hq, hE⟩ := hrel
    have HQ := Lib.hid hq; have HE := Lib.hid hE
    clear hq hE
    by_cases hlt : k < m
    · have hkl : k < lb.length := by rw [HB.out.len]; exact hlt
      obtain ⟨s, hs⟩ : ∃ s, s = lb[k].s := ⟨_, rfl⟩
      obtain ⟨a, ha⟩ : ∃ b, b = lb[k].b := ⟨_, rfl⟩
      obtain ⟨z, hzz⟩ : ∃ z, z = lb[k].z := ⟨_, rfl⟩
      obtain ⟨g, o, hA, hc⟩ := HB.out.at_.1 (by intro e; have := congrArg List.length e; simp at this; rw [this] at hkl; simp at hkl)
      subst hA
      have hck := hc k (by simpa using hkl)
      have cs0 : wr.cell? ⟨g, o + k * 2, none⟩ = some (.string s) := HE.out.cell' (by rw [hck.1, hs]; simp [Co.pair])
      have cs1 : wr.cell? ⟨g, o + k * 2 + 1, none⟩ = some (.pointer (some ⟨a, 0, none⟩)) := HE.out.cell' (by rw [hck.2, ha]; simp [Co.pair])
      have HX := Lib.hid (show lb[k] = ⟨s, a, z⟩ by rw [hs, ha, hzz])
      have HBA := Lib.hid (show BigAt wr a z by rw [ha, hzz]; exact (HB.out.at_.2 _ (List.getElem_mem hkl)).ext HE.out)
      have HZ := Lib.hid (show z.natAbs < B64 by rw [hzz]; have := HB.out.abs _ (List.getElem_mem hkl); unfold B64; omega)
      have HAM := Lib.hid (fun (W : World) (e : Ext w W) => HA.out.amount s e)
      obtain ⟨y, hy⟩ : ∃ y, y = totC s la := ⟨_, rfl⟩
      have HY := Lib.hid hy; have HYB := Lib.hid (show y.natAbs < B64 by rw [hy]; exact HA.out.tot s)
      rw [← hy] at HAM
      have K0 := Lib.hid (blk_new0 wr 81 [.string s, .pointer (some ⟨a, 0, none⟩)])
      have b0 : (0 : Int) ≤ (k : Int) := by omega
      have b1 : (k : Int) < (m : Int) := by omega
      clear hs ha hzz hck hc hy
      by_cases h0 : y < z
      · have HG := Lib.hid (fun (W : World) (b : Nat) (h1 : BigAt W b y) (h2 : BigAt W a z) => mGT a b z y W h2 h1 HZ.out HYB.out)
        rw [cmp_gt] at HG
        rw [decide_eq_true h0] at HG
        have H0 := Lib.hid h0; clear h0
        go_wp2_with (fail)
        go_region_law (first | (go_simp; go_at_call 80; refine (HAM.out _ (HE.out.trans' ((Ext.alloc' _ _).trans' (Ext.drewN' _ 1)))).mono ?_; rintro e w1 ⟨b, rfl, hB, hE⟩; have hE1 : Ext wr w1 := ((Ext.alloc' wr (coinBox s a)).trans' (Ext.drewN' _ 1)).trans' hE; have HE1 := Lib.hid hE1; have HBB := Lib.hid hB; obtain ⟨c0, c1, l0⟩ := cells_two2 ((K0.out.drewN 1).ext hE); clear hB hE hE1) | (go_simp; go_at_call 133; refine (HG.out _ _ HBB.out (HBA.out.ext HE1.out)).mono ?_; rintro e w2 ⟨rfl, hE⟩; have HE2 := Lib.hid (HE1.out.trans' hE); clear hE))
        all_goals (go_wp2; go_ret; exact ⟨congrArg (fun q => Ending.returned (Value.bool q)) (HR.out.trans (all_take hkl (P := fun x : Co => decide (x.z ≤ totC x.s la)) (by rw [HX.out]; dsimp only; rw [← HY.out]; exact decide_eq_false (by have := H0.out; omega)))).symm, HE.out.trans' HE2.out⟩)
      · have HG := Lib.hid (fun (W : World) (b : Nat) (h1 : BigAt W b y) (h2 : BigAt W a z) => mGT a b z y W h2 h1 HZ.out HYB.out)
        rw [cmp_gt] at HG
        rw [decide_eq_false h0] at HG
        have H0 := Lib.hid h0; clear h0
        go_wp2_with (fail)
        go_region_law (first | (go_simp; go_at_call 80; refine (HAM.out _ (HE.out.trans' ((Ext.alloc' _ _).trans' (Ext.drewN' _ 1)))).mono ?_; rintro e w1 ⟨b, rfl, hB, hE⟩; have hE1 : Ext wr w1 := ((Ext.alloc' wr (coinBox s a)).trans' (Ext.drewN' _ 1)).trans' hE; have HE1 := Lib.hid hE1; have HBB := Lib.hid hB; obtain ⟨c0, c1, l0⟩ := cells_two2 ((K0.out.drewN 1).ext hE); clear hB hE hE1) | (go_simp; go_at_call 133; refine (HG.out _ _ HBB.out (HBA.out.ext HE1.out)).mono ?_; rintro e w2 ⟨rfl, hE⟩; have HE2 := Lib.hid (HE1.out.trans' hE); clear hE))
        all_goals go_wp2
        all_goals exact ⟨⟨k + 1, by omega, by go_num, take_step hkl HQ.out (by rw [HX.out]; dsimp only; rw [← HY.out]; exact decide_eq_true (by have := H0.out; omega)), HE.out.trans' HE2.out⟩, by simp [intOf]; omega⟩
    · obtain rfl : k = m := by omega
      have HALL := Lib.hid (show lb.all (fun x : Co => decide (x.z ≤ totC x.s la)) = true from all_full (by rw [HB.out.len]; exact HQ.out))
      go_wp2
      go_ret
      exact ⟨congrArg (fun q => Ending.returned (Value.bool q)) (HR.out.trans HALL.out).symm, HE.out⟩
theorem cmp_ge (y z : Int) : decide (0 ≤ cmpZ y z) = decide (z ≤ y) := by
  unfold cmpZ
  by_cases h1 : y < z
  · rw [if_pos h1]; have : ¬ z ≤ y := by omega
    simp [this]
  · rw [if_neg h1]; have : z ≤ y := by omega
    split <;> simp [this]

set_option maxRecDepth 100000 in
set_option maxHeartbeats 4000000 in
theorem tIsAnyGT (A B : Option Addr) (n c m d : Nat) (la lb : List Co) (w : World) (hA : SetAt w A n c la) (hB : SetAt w B m d lb) :
    Calls Tryz.prog 117 #[.slice A n c, .slice B m d] w (RetE (.bool (!la.all fun x : Co => decide (totC x.s lb = 0) || decide (x.z ≤ totC x.s lb))) w) := by
  have HA := Lib.hid hA; have HB := Lib.hid hB
  have hn1 := hA.small; have hm1 := hB.small
  clear hA hB
  by_cases h0 : m = 0
  · obtain rfl : lb = [] := List.length_eq_zero_iff.1 (by rw [HB.out.len]; exact h0)
    have HF := Lib.hid (show (la.all fun x : Co => decide (totC x.s [] = 0) || decide (x.z ≤ totC x.s [])) = true from by
      rw [List.all_eq_true]; intro x _; rfl)
    rw [HF.out]
    subst h0
    go_enter Tryz.func117, Tryz.ntmps117
    go_wp2
    go_ret
    exact ⟨rfl, Ext.refl _⟩
  have d0 : ((m : Int) == 0) = false := by simp; omega
  clear h0
  obtain ⟨r, hr⟩ : ∃ r, r = (!la.all fun x : Co => decide (totC x.s lb = 0) || decide (x.z ≤ totC x.s lb)) := ⟨_, rfl⟩
  rw [← hr]
  have HR := Lib.hid hr; clear hr
  go_enter Tryz.func117, Tryz.ntmps117
  go_wp2_with (fail)
  go_loopw [13] (fun i wr => ∃ (k : Nat), k ≤ n ∧ i = .int .i64 k ∧ (∀ x ∈ la.take k, (fun x : Co => decide (totC x.s lb = 0) || decide (x.z ≤ totC x.s lb)) x = true) ∧ Ext w wr) (fun i _ => n - (intOf i).toNat)
  case atStart => exact ⟨0, Nat.zero_le _, rfl, (fun x hx => by simp at hx), Ext.refl _⟩
  case round =>
    obtain ⟨k, hk, rfl, hq, hE⟩ := hrel
    have HQ := Lib.hid hq; have HE := Lib.hid hE
    clear hq hE
    by_cases hlt : k < n
    · have hkl : k < la.length := by rw [HA.out.len]; exact hlt
      obtain ⟨s, hs⟩ : ∃ s, s = la[k].s := ⟨_, rfl⟩
      obtain ⟨a, ha⟩ : ∃ b, b = la[k].b := ⟨_, rfl⟩
      obtain ⟨z, hzz⟩ : ∃ z, z = la[k].z := ⟨_, rfl⟩
      obtain ⟨g, o, hA, hc⟩ := HA.out.at_.1 (by intro e; have := congrArg List.length e; simp at this; rw [this] at hkl; simp at hkl)
      subst hA
      have hck := hc k (by simpa using hkl)
      have cs0 : wr.cell? ⟨g, o + k * 2, none⟩ = some (.string s) := HE.out.cell' (by rw [hck.1, hs]; simp [Co.pair])
      have cs1 : wr.cell? ⟨g, o + k * 2 + 1, none⟩ = some (.pointer (some ⟨a, 0, none⟩)) := HE.out.cell' (by rw [hck.2, ha]; simp [Co.pair])
      have HX := Lib.hid (show la[k] = ⟨s, a, z⟩ by rw [hs, ha, hzz])
      have HBA := Lib.hid (show BigAt wr a z by rw [ha, hzz]; exact (HA.out.at_.2 _ (List.getElem_mem hkl)).ext HE.out)
      have HZ := Lib.hid (show z.natAbs < B64 by rw [hzz]; have := HA.out.abs _ (List.getElem_mem hkl); unfold B64; omega)
      have HAM := Lib.hid (fun (W : World) (e : Ext w W) => HB.out.amount s e)
      obtain ⟨y, hy⟩ : ∃ y, y = totC s lb := ⟨_, rfl⟩
      have HY := Lib.hid hy; have HYB := Lib.hid (show y.natAbs < B64 by rw [hy]; exact HB.out.tot s)
      rw [← hy] at HAM
      have K0 := Lib.hid (blk_new0 wr 81 [.string s, .pointer (some ⟨a, 0, none⟩)])
      have b0 : (0 : Int) ≤ (k : Int) := by omega
      have b1 : (k : Int) < (n : Int) := by omega
      clear hs ha hzz hck hc hy
      go_wp2_with (fail)
      go_at_call 80
      refine (HAM.out _ (HE.out.trans' (Ext.alloc' _ _))).mono ?_
      rintro e w1 ⟨b, rfl, hB, hE⟩
      have hE1 := (Ext.alloc' wr (coinBox s a)).trans' hE
      have HE1 := Lib.hid hE1; have HBB := Lib.hid hB
      obtain ⟨c0, c1, l0⟩ := cells_two2 (K0.out.ext hE)
      clear hB hE hE1
      have HG := Lib.hid (fun (W : World) (b : Nat) (h1 : BigAt W b y) (h2 : BigAt W a z) => mGT a b z y W h2 h1 HZ.out HYB.out)
      rw [cmp_gt] at HG
      by_cases h0 : y < z
      · rw [decide_eq_true h0] at HG
        have H0 := Lib.hid h0; clear h0
        go_wp2_with (fail)
        go_at_call 133
        refine (HG.out _ _ (HBB.out.ext (Ext.alloc' _ _)) (HBA.out.ext (HE1.out.trans' (Ext.alloc' _ _)))).mono ?_
        rintro e w2 ⟨rfl, hE⟩
        have hE2 := (Ext.alloc' w1 (intBox b)).trans' hE
        have k7 := (blk_new0 w1 79 [.pointer (some ⟨b, 0, none⟩)]).ext hE
        have c7 : w2.cell? ⟨w1.heap.size, 0, none⟩ = some (.pointer (some ⟨b, 0, none⟩)) := (k7.cell 0).trans rfl
        have HE2 := Lib.hid (HE1.out.trans' hE2); have HB2 := Lib.hid (HBB.out.ext hE2)
        clear hE hE2 k7
        have HIZ := Lib.hid (mIsZero b y w2 HB2.out)
        rw [sgn_zero] at HIZ
        by_cases h1 : y = 0
        · rw [decide_eq_true h1] at HIZ
          have H1 := Lib.hid h1; clear h1
          go_wp2_with (fail)
          go_at_call 148
          refine HIZ.out.mono ?_
          rintro e w3 ⟨rfl, hE⟩
          have HE3 := Lib.hid (HE2.out.trans' hE); clear hE
          go_wp2
          go_roundw
          case rel => exact ⟨k + 1, by omega, by go_num, take_step hkl HQ.out (by rw [HX.out]; dsimp only; rw [← HY.out, H1.out]; rfl), HE.out.trans' HE3.out⟩
          case measure => simp [intOf]; omega
        · rw [decide_eq_false h1] at HIZ
          have H1 := Lib.hid h1; clear h1
          go_wp2_with (fail)
          go_at_call 148
          refine HIZ.out.mono ?_
          rintro e w3 ⟨rfl, hE⟩
          have HE3 := Lib.hid (HE2.out.trans' hE); clear hE
          go_wp2
          go_ret
          exact ⟨congrArg (fun q => Ending.returned (Value.bool q)) (HR.out.trans (congrArg (fun q => !q) (all_take hkl (P := fun x : Co => decide (totC x.s lb = 0) || decide (x.z ≤ totC x.s lb)) (by rw [HX.out]; dsimp only; rw [← HY.out, decide_eq_false H1.out, Bool.false_or]; exact decide_eq_false (by have := H0.out; omega))))).symm, HE.out.trans' HE3.out⟩
      · rw [decide_eq_false h0] at HG
        have H0 := Lib.hid h0; clear h0
        go_wp2_with (fail)
        go_at_call 133
        refine (HG.out _ _ (HBB.out.ext (Ext.alloc' _ _)) (HBA.out.ext (HE1.out.trans' (Ext.alloc' _ _)))).mono ?_
        rintro e w2 ⟨rfl, hE⟩
        have hE2 := (Ext.alloc' w1 (intBox b)).trans' hE
        have k7 := (blk_new0 w1 79 [.pointer (some ⟨b, 0, none⟩)]).ext hE
        have c7 : w2.cell? ⟨w1.heap.size, 0, none⟩ = some (.pointer (some ⟨b, 0, none⟩)) := (k7.cell 0).trans rfl
        have HE2 := Lib.hid (HE1.out.trans' hE2); have HB2 := Lib.hid (HBB.out.ext hE2)
        clear hE hE2 k7
        go_wp2
        go_roundw
        case rel => exact ⟨k + 1, by omega, by go_num, take_step hkl HQ.out (by rw [HX.out]; dsimp only; rw [← HY.out, show decide (z ≤ y) = true from decide_eq_true (by have := H0.out; omega)]; exact Bool.or_true _), HE.out.trans' HE2.out⟩
        case measure => simp [intOf]; omega
    · obtain rfl : k = n := by omega
      have HALL := Lib.hid (show la.all (fun x : Co => decide (totC x.s lb = 0) || decide (x.z ≤ totC x.s lb)) = true from all_full (by rw [HA.out.len]; exact HQ.out))
      go_wp2
      go_ret
      exact ⟨congrArg (fun q => Ending.returned (Value.bool q)) (HR.out.trans (congrArg (fun q => !q) HALL.out)).symm, HE.out⟩

set_option maxRecDepth 100000 in
set_option maxHeartbeats 4000000 in
theorem tIsAnyGTE (A B : Option Addr) (n c m d : Nat) (la lb : List Co) (w : World) (hA : SetAt w A n c la) (hB : SetAt w B m d lb) :
    Calls Tryz.prog 118 #[.slice A n c, .slice B m d] w (RetE (.bool (!la.all fun x : Co => decide (totC x.s lb = 0) || decide (x.z < totC x.s lb))) w) := by
  have HA := Lib.hid hA; have HB := Lib.hid hB
  have hn1 := hA.small; have hm1 := hB.small
  clear hA hB
  by_cases h0 : m = 0
  · obtain rfl : lb = [] := List.length_eq_zero_iff.1 (by rw [HB.out.len]; exact h0)
    have HF := Lib.hid (show (la.all fun x : Co => decide (totC x.s [] = 0) || decide (x.z < totC x.s [])) = true from by
      rw [List.all_eq_true]; intro x _; rfl)
    rw [HF.out]
    subst h0
    go_enter Tryz.func118, Tryz.ntmps118
    go_wp2
    go_ret
    exact ⟨rfl, Ext.refl _⟩
  have d0 : ((m : Int) == 0) = false := by simp; omega
  clear h0
  obtain ⟨r, hr⟩ : ∃ r, r = (!la.all fun x : Co => decide (totC x.s lb = 0) || decide (x.z < totC x.s lb)) := ⟨_, rfl⟩
  rw [← hr]
  have HR := Lib.hid hr; clear hr
  go_enter Tryz.func118, Tryz.ntmps118
  go_wp2_with (fail)
  go_loopw [13] (fun i wr => ∃ (k : Nat), k ≤ n ∧ i = .int .i64 k ∧ (∀ x ∈ la.take k, (fun x : Co => decide (totC x.s lb = 0) || decide (x.z < totC x.s lb)) x = true) ∧ Ext w wr) (fun i _ => n - (intOf i).toNat)
  case atStart => exact ⟨0, Nat.zero_le _, rfl, (fun x hx => by simp at hx), Ext.refl _⟩
  case round =>
    obtain ⟨k, hk, rfl, hq, hE⟩ := hrel
    have HQ := Lib.hid hq; have HE := Lib.hid hE
    clear hq hE
    by_cases hlt : k < n
    · have hkl : k < la.length := by rw [HA.out.len]; exact hlt
      obtain ⟨s, hs⟩ : ∃ s, s = la[k].s := ⟨_, rfl⟩
      obtain ⟨a, ha⟩ : ∃ b, b = la[k].b := ⟨_, rfl⟩
      obtain ⟨z, hzz⟩ : ∃ z, z = la[k].z := ⟨_, rfl⟩
      obtain ⟨g, o, hA, hc⟩ := HA.out.at_.1 (by intro e; have := congrArg List.length e; simp at this; rw [this] at hkl; simp at hkl)
      subst hA
      have hck := hc k (by simpa using hkl)
      have cs0 : wr.cell? ⟨g, o + k * 2, none⟩ = some (.string s) := HE.out.cell' (by rw [hck.1, hs]; simp [Co.pair])
      have cs1 : wr.cell? ⟨g, o + k * 2 + 1, none⟩ = some (.pointer (some ⟨a, 0, none⟩)) := HE.out.cell' (by rw [hck.2, ha]; simp [Co.pair])
      have HX := Lib.hid (show la[k] = ⟨s, a, z⟩ by rw [hs, ha, hzz])
      have HBA := Lib.hid (show BigAt wr a z by rw [ha, hzz]; exact (HA.out.at_.2 _ (List.getElem_mem hkl)).ext HE.out)
      have HZ := Lib.hid (show z.natAbs < B64 by rw [hzz]; have := HA.out.abs _ (List.getElem_mem hkl); unfold B64; omega)
      have HAM := Lib.hid (fun (W : World) (e : Ext w W) => HB.out.amount s e)
      obtain ⟨y, hy⟩ : ∃ y, y = totC s lb := ⟨_, rfl⟩
      have HY := Lib.hid hy; have HYB := Lib.hid (show y.natAbs < B64 by rw [hy]; exact HB.out.tot s)
      rw [← hy] at HAM
      have K0 := Lib.hid (blk_new0 wr 81 [.string s, .pointer (some ⟨a, 0, none⟩)])
      have b0 : (0 : Int) ≤ (k : Int) := by omega
      have b1 : (k : Int) < (n : Int) := by omega
      clear hs ha hzz hck hc hy
      go_wp2_with (fail)
      go_at_call 80
      refine (HAM.out _ (HE.out.trans' (Ext.alloc' _ _))).mono ?_
      rintro e w1 ⟨b, rfl, hB, hE⟩
      have hE1 := (Ext.alloc' wr (coinBox s a)).trans' hE
      have HE1 := Lib.hid hE1; have HBB := Lib.hid hB
      obtain ⟨c0, c1, l0⟩ := cells_two2 (K0.out.ext hE)
      clear hB hE hE1
      have HG := Lib.hid (fun (W : World) (b : Nat) (h1 : BigAt W b y) (h2 : BigAt W a z) => mGTE a b z y W h2 h1 HZ.out HYB.out)
      rw [cmp_ge] at HG
      by_cases h0 : y ≤ z
      · rw [decide_eq_true h0] at HG
        have H0 := Lib.hid h0; clear h0
        go_wp2_with (fail)
        go_at_call 149
        refine (HG.out _ _ (HBB.out.ext (Ext.alloc' _ _)) (HBA.out.ext (HE1.out.trans' (Ext.alloc' _ _)))).mono ?_
        rintro e w2 ⟨rfl, hE⟩
        have hE2 := (Ext.alloc' w1 (intBox b)).trans' hE
        have k7 := (blk_new0 w1 79 [.pointer (some ⟨b, 0, none⟩)]).ext hE
        have c7 : w2.cell? ⟨w1.heap.size, 0, none⟩ = some (.pointer (some ⟨b, 0, none⟩)) := (k7.cell 0).trans rfl
        have HE2 := Lib.hid (HE1.out.trans' hE2); have HB2 := Lib.hid (HBB.out.ext hE2)
        clear hE hE2 k7
        have HIZ := Lib.hid (mIsZero b y w2 HB2.out)
        rw [sgn_zero] at HIZ
        by_cases h1 : y = 0
        · rw [decide_eq_true h1] at HIZ
          have H1 := Lib.hid h1; clear h1
          go_wp2_with (fail)
          go_at_call 148
          refine HIZ.out.mono ?_
          rintro e w3 ⟨rfl, hE⟩
          have HE3 := Lib.hid (HE2.out.trans' hE); clear hE
          go_wp2
          go_roundw
          case rel => exact ⟨k + 1, by omega, by go_num, take_step hkl HQ.out (by rw [HX.out]; dsimp only; rw [← HY.out, H1.out]; rfl), HE.out.trans' HE3.out⟩
          case measure => simp [intOf]; omega
        · rw [decide_eq_false h1] at HIZ
          have H1 := Lib.hid h1; clear h1
          go_wp2_with (fail)
          go_at_call 148
          refine HIZ.out.mono ?_
          rintro e w3 ⟨rfl, hE⟩
          have HE3 := Lib.hid (HE2.out.trans' hE); clear hE
          go_wp2
          go_ret
          exact ⟨congrArg (fun q => Ending.returned (Value.bool q)) (HR.out.trans (congrArg (fun q => !q) (all_take hkl (P := fun x : Co => decide (totC x.s lb = 0) || decide (x.z < totC x.s lb)) (by rw [HX.out]; dsimp only; rw [← HY.out, decide_eq_false H1.out, Bool.false_or]; exact decide_eq_false (by have := H0.out; omega))))).symm, HE.out.trans' HE3.out⟩
      · rw [decide_eq_false h0] at HG
        have H0 := Lib.hid h0; clear h0
        go_wp2_with (fail)
        go_at_call 149
        refine (HG.out _ _ (HBB.out.ext (Ext.alloc' _ _)) (HBA.out.ext (HE1.out.trans' (Ext.alloc' _ _)))).mono ?_
        rintro e w2 ⟨rfl, hE⟩
        have hE2 := (Ext.alloc' w1 (intBox b)).trans' hE
        have k7 := (blk_new0 w1 79 [.pointer (some ⟨b, 0, none⟩)]).ext hE
        have c7 : w2.cell? ⟨w1.heap.size, 0, none⟩ = some (.pointer (some ⟨b, 0, none⟩)) := (k7.cell 0).trans rfl
        have HE2 := Lib.hid (HE1.out.trans' hE2); have HB2 := Lib.hid (HBB.out.ext hE2)
        clear hE hE2 k7
        go_wp2
        go_roundw
        case rel => exact ⟨k + 1, by omega, by go_num, take_step hkl HQ.out (by rw [HX.out]; dsimp only; rw [← HY.out, show decide (z < y) = true from decide_eq_true (by have := H0.out; omega)]; exact Bool.or_true _), HE.out.trans' HE2.out⟩
        case measure => simp [intOf]; omega
    · obtain rfl : k = n := by omega
      have HALL := Lib.hid (show la.all (fun x : Co => decide (totC x.s lb = 0) || decide (x.z < totC x.s lb)) = true from all_full (by rw [HA.out.len]; exact HQ.out))
      go_wp2
      go_ret
      exact ⟨congrArg (fun q => Ending.returned (Value.bool q)) (HR.out.trans (congrArg (fun q => !q) HALL.out)).symm, HE.out⟩
end Go.Proofs.YtagfbefgcijegaaGreatDoor
