/-
  The contracts of impl.About and of the reference's SumNegative.
-/
import Derived.Test.YtagfbefgcijegaaGreatDoorSumErr
namespace Go.Proofs.YtagfbefgcijegaaGreatDoor
open Go Go.RowKit

def zeroB (l : List (ByteArray × Int)) : Bool := l.all fun x => decide (x.2 = 0)
def posB (l : List (ByteArray × Int)) : Bool := !l.isEmpty && l.all fun x => decide (0 < x.2)
def negB (l : List (ByteArray × Int)) : Bool := l.any fun x => decide (x.2 < 0)
theorem sgn_neg (z : Int) : (sgn z == -1) = decide (z < 0) := by
  unfold sgn
  by_cases h1 : z < 0
  · rw [if_pos h1]; simp [h1]
  · rw [if_neg h1]
    by_cases h2 : 0 < z
    · rw [if_pos h2]; simp [h1]
    · rw [if_neg h2]; simp [h1]
theorem sgn_zero' (z : Int) : (sgn z == 0) = decide (z = 0) := by
  unfold sgn
  by_cases h1 : z < 0
  · rw [if_pos h1]; have : z ≠ 0 := by omega
    simp [this]
  · rw [if_neg h1]
    by_cases h2 : 0 < z
    · rw [if_pos h2]; have : z ≠ 0 := by omega
      simp [this]
    · rw [if_neg h2]; have : z = 0 := by omega
      simp [this]
theorem zero_val {cs : List Co} {l : List (ByteArray × Int)} (h : cs.map Co.val = l) : (cs.all fun x => sgn x.z == 0) = zeroB l := by
  rw [← h]; unfold zeroB; rw [List.all_map]; congr 1; funext x; rw [sgn_zero']; rfl
theorem pos_val {cs : List Co} {l : List (ByteArray × Int)} (h : cs.map Co.val = l) : (!cs.isEmpty && cs.all fun x => sgn x.z == 1) = posB l := by
  rw [← h]; unfold posB; rw [List.all_map, List.isEmpty_map]; congr 2; funext x; rw [sgn_pos]; rfl
theorem neg_val {cs : List Co} {l : List (ByteArray × Int)} (h : cs.map Co.val = l) : (cs.any fun x => sgn x.z == -1) = negB l := by
  rw [← h]; unfold negB; rw [List.any_map]; congr 1; funext x; rw [sgn_neg]; rfl

theorem errOne_ne {p : Option ByteArray} {x : ByteArray × Int} {t : ByteArray} (h : errOne p x = some t) : (t.toList == (⟨#[]⟩ : ByteArray).toList) = false := by
  have key : ∀ u : ByteArray, u ≠ ⟨#[]⟩ → (u.toList == (⟨#[]⟩ : ByteArray).toList) = false := fun u hu => by rw [key_beq]; simpa using hu
  unfold errOne at h
  split at h
  · injection h with h; subst h; exact key _ (by decide)
  · split at h
    · split at h
      · injection h with h; subst h; exact key _ (by decide)
      · split at h
        · injection h with h; subst h; exact key _ (by decide)
        · split at h
          · injection h with h; subst h; exact key _ (by decide)
          · cases h
    · split at h
      · injection h with h; subst h; exact key _ (by decide)
      · cases h
theorem err_ne {l : List (ByteArray × Int)} {t : ByteArray} (h : ErrIs l (some t)) : (t.toList == (⟨#[]⟩ : ByteArray).toList) = false := by
  obtain ⟨j, hj, _⟩ := h
  unfold errAt at hj
  split at hj
  · cases hj
  · exact errOne_ne hj
theorem err_ne2 {l : List (ByteArray × Int)} {t : ByteArray} (h : ErrIs l (some t)) : ¬ t.toList = [] ∧ t.toList.isEmpty = false := by
  have h1 : ¬ t.toList = [] := by
    intro e
    have := err_ne h
    rw [e, Lib.toList_data] at this
    simp at this
  exact ⟨h1, by cases h2 : t.toList with | nil => exact absurd h2 h1 | cons a r => rfl⟩
/-- What a list tells of itself. -/
def RetFacts (l : List (ByteArray × Int)) (w : World) (e : Ending) (w' : World) : Prop :=
  ∃ o, ErrIs l o ∧ e = .returned (.agg #[.bool o.isNone, .bool (zeroB l), .bool (decide (l.length = 0)), .bool (posB l), .bool (negB l)]) ∧ Ext w w'

set_option maxRecDepth 100000 in
set_option maxHeartbeats 2000000 in
theorem iAbout (A : Option Addr) (n c : Nat) (l : List (ByteArray × Int)) (w : World) (hl : l.length = n) (hn : n ≤ 1000) (h : PlainAt w A l) (hz : ∀ x ∈ l, -maxI ≤ x.2 ∧ x.2 ≤ maxI) (hsz : ∀ x ∈ l, x.1.size ≤ maxLen) :
    Calls Tryz.prog 49 #[.slice A n c] w (RetFacts l w) := by
  have H1 := Lib.hid (iCoins A n c l _ hl (by omega) (h.ext (Ext.alloc' w (.cells #[.bool false, .bool false, .bool false, .bool false, .bool false] 56))) hz)
  have K0 := Lib.hid (blk_new0 w 56 [.bool false, .bool false, .bool false, .bool false, .bool false])
  have HL := Lib.hid hl; have HSZ := Lib.hid hsz
  clear hl h hz hsz
  go_enter Tryz.func49, Tryz.ntmps49
  go_wp2_with (fail)
  go_at_call 72
  refine H1.out.mono ?_
  rintro e w1 ⟨v, cs, rfl, hcv, hown, hE⟩
  obtain ⟨A1, c1, rfl, hc1, hc2⟩ := own_cap2 hown.1
  have HO := Lib.hid (own_at hown).1; have HV := Lib.hid hcv; have HE := Lib.hid hE; have HN := Lib.hid (show cs.length = n by rw [← HL.out, ← hcv]; simp); have HC := Lib.hid (And.intro hc1 hc2)
  clear hown hcv hE hc1 hc2
  have HSC := Lib.hid (show ∀ x ∈ cs, x.s.size ≤ 9223372036854775807 from fun x hx => by
    have := HSZ.out x.val (by rw [← HV.out]; exact List.mem_map_of_mem hx)
    unfold maxLen at this; exact Nat.le_trans this (by decide))
  go_wp2_with (fail)
  go_at_call 97
  refine (tIsValidC A1 cs.length c1 cs _ rfl (by have := HN.out; omega) HC.out.1 HC.out.2 HO.out HSC.out).mono ?_
  rintro e w2 ⟨o, ho, rfl, hE⟩
  rw [HV.out] at ho
  have HOO := Lib.hid ho; have HE2 := Lib.hid hE; clear ho hE
  obtain ⟨b1, hb1⟩ : ∃ b, b = o.isNone := ⟨_, rfl⟩
  rw [← hb1]; have HB1 := Lib.hid hb1; clear hb1
  go_wp2_with (fail)
  go_at_call 98
  refine (tIsZeroC A1 cs.length c1 cs _ rfl (by have := HN.out; omega) (HO.out.ext HE2.out)).mono ?_
  rintro e w3 ⟨rfl, hE⟩
  have HE3 := Lib.hid hE; clear hE
  obtain ⟨b2, hb2⟩ : ∃ b, b = (cs.all fun x => sgn x.z == 0) := ⟨_, rfl⟩
  rw [← hb2]; have HB2 := Lib.hid (hb2.trans (zero_val HV.out)); clear hb2
  go_wp2_with (fail)
  go_at_call 99
  refine (tEmptyC A1 cs.length c1 _).mono ?_
  rintro e w4 ⟨rfl, hE⟩
  have HE4 := Lib.hid hE; clear hE
  obtain ⟨b3, hb3⟩ : ∃ b, b = decide (cs.length = 0) := ⟨_, rfl⟩
  rw [← hb3]; have HB3 := Lib.hid (show b3 = decide (l.length = 0) by rw [hb3, HN.out, HL.out]); clear hb3
  go_wp2_with (fail)
  go_at_call 100
  refine (tAllPos A1 cs.length c1 cs _ rfl (by have := HN.out; omega) (HO.out.ext ((HE2.out.trans' HE3.out).trans' HE4.out))).mono ?_
  rintro e w5 ⟨rfl, hE⟩
  have HE5 := Lib.hid hE; clear hE
  obtain ⟨b4, hb4⟩ : ∃ b, b = (!cs.isEmpty && cs.all fun x => sgn x.z == 1) := ⟨_, rfl⟩
  rw [← hb4]; have HB4 := Lib.hid (hb4.trans (pos_val HV.out)); clear hb4
  go_wp2_with (fail)
  go_at_call 101
  refine (tAnyNeg A1 cs.length c1 cs _ rfl (by have := HN.out; omega) (HO.out.ext (((HE2.out.trans' HE3.out).trans' HE4.out).trans' HE5.out))).mono ?_
  rintro e w6 ⟨rfl, hE⟩
  have HEE := Lib.hid (((((HE.out.trans' HE2.out).trans' HE3.out).trans' HE4.out).trans' HE5.out).trans' hE); clear hE
  obtain ⟨b5, hb5⟩ : ∃ b, b = (cs.any fun x => sgn x.z == -1) := ⟨_, rfl⟩
  rw [← hb5]; have HB5 := Lib.hid (hb5.trans (neg_val HV.out)); clear hb5
  have kk := Lib.hid (K0.out.ext HEE.out)
  have d0 : w6.cell? ⟨w.heap.size, 0, none⟩ = some (.bool false) := (kk.out.cell 0).trans rfl
  have d1 : w6.cell? ⟨w.heap.size, 1, none⟩ = some (.bool false) := (kk.out.cell 1).trans rfl
  have d2 : w6.cell? ⟨w.heap.size, 2, none⟩ = some (.bool false) := (kk.out.cell 2).trans rfl
  have d3 : w6.cell? ⟨w.heap.size, 3, none⟩ = some (.bool false) := (kk.out.cell 3).trans rfl
  have d4 : w6.cell? ⟨w.heap.size, 4, none⟩ = some (.bool false) := (kk.out.cell 4).trans rfl
  have f0 := kk.out.frozen 0
  have f1 := kk.out.frozen 1
  have f2 := kk.out.frozen 2
  have f3 := kk.out.frozen 3
  have f4 := kk.out.frozen 4
  go_wp2
  exact bodyPost_ret (v := .agg #[.bool b1, .bool b2, .bool b3, .bool b4, .bool b5]) (by simp [results, Tryz.results49, go_sem, d0, d1, d2, d3, d4]) rfl ⟨o, HOO.out, by rw [HB1.out, HB2.out, HB3.out, HB4.out, HB5.out], Only.ext ((Ext.alloc' _ _).trans' HEE.out) ((((((Only.refl _ _).set_ 0 _).set_ 1 _).set_ 2 _).set_ 3 _).set_ 4 _) (Nat.le_refl _)⟩

set_option maxRecDepth 100000 in
set_option maxHeartbeats 1000000 in
theorem sSumNegative (A : Option Addr) (n c : Nat) (l : List (ByteArray × Int)) (w : World) (hl : l.length = n) (hn : n ≤ 1000000) (h : PlainAt w A l) :
    Calls Tryz.prog 50 #[.slice A n c] w (RetE (.bool (negB l)) w) := by
  have HL := Lib.hid hl; have HP := Lib.hid h
  clear hl h
  go_enter Tryz.func50, Tryz.ntmps50
  go_wp2
  go_loopw [7] (fun i wr => ∃ k : Nat, k ≤ n ∧ i = .int .i64 k ∧ (∀ x ∈ l.take k, ¬ x.2 < 0) ∧ Ext w wr) (fun i _ => n - (intOf i).toNat)
  case atStart => exact ⟨0, Nat.zero_le _, rfl, (fun x hx => by simp at hx), Ext.refl _⟩
  case round =>
    obtain ⟨k, hk, rfl, hq, hE⟩ := hrel
    have HQ := Lib.hid hq; have HE := Lib.hid hE
    clear hq hE
    by_cases hlt : k < n
    · have hkl : k < l.length := by rw [HL.out]; exact hlt
      obtain ⟨s, hs⟩ : ∃ s, s = l[k].1 := ⟨_, rfl⟩
      obtain ⟨z, hzz⟩ : ∃ z, z = l[k].2 := ⟨_, rfl⟩
      obtain ⟨g, o, hA, hc⟩ := HP.out (by intro e; have := congrArg List.length e; simp at this; rw [this] at hkl; simp at hkl)
      subst hA
      have hck := hc k (by simpa using hkl)
      have cs0 : wr.cell? ⟨g, o + k * 2, none⟩ = some (.string s) := HE.out.cell' (by rw [hck.1, hs]; simp [plain])
      have cs1 : wr.cell? ⟨g, o + k * 2 + 1, none⟩ = some (.int .i64 z) := HE.out.cell' (by rw [hck.2, hzz]; simp [plain])
      have HZ := Lib.hid hzz; have HM := Lib.hid (List.getElem_mem hkl)
      clear hs hzz hck hc
      by_cases h0 : z < 0
      · have F := Lib.hid (show negB l = true by unfold negB; rw [List.any_eq_true]; exact ⟨l[k], HM.out, by rw [← HZ.out]; simpa using h0⟩)
        have d1 : decide (z < 0) = true := by simpa using h0
        go_wp2
        go_ret
        rw [F.out]; exact ⟨rfl, HE.out.trans' (Ext.alloc' _ _)⟩
      · have d1 : decide (z < 0) = false := by simpa using h0
        have HN0 := Lib.hid h0; clear h0
        go_wp2
        go_roundw
        case rel =>
          refine ⟨k + 1, by omega, by go_num, fun x hx => ?_, HE.out.trans' (Ext.alloc' _ _)⟩
          rw [List.take_succ_eq_append_getElem hkl, List.mem_append, List.mem_singleton] at hx
          rcases hx with hx | rfl
          · exact HQ.out x hx
          · rw [← HZ.out]; exact HN0.out
        case measure => simp [intOf]; omega
    · obtain rfl : k = n := by omega
      have F := Lib.hid (show negB l = false by
        have := HQ.out
        rw [List.take_of_length_le (by rw [HL.out]; exact Nat.le_refl _)] at this
        unfold negB; rw [List.any_eq_false]; intro x hx; simpa using this x hx)
      go_wp2
      go_ret
      rw [F.out]; exact ⟨rfl, HE.out⟩
end Go.Proofs.YtagfbefgcijegaaGreatDoor
