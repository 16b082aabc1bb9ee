/-
  The contracts of Coins.IsZero, IsAllPositive, IsAnyNegative, Empty, IsValid.
-/
import Derived.Test.YtagfbefgcijegaaGreatDoorVal
namespace Go.Proofs.YtagfbefgcijegaaGreatDoor
open Go Go.RowKit

set_option maxRecDepth 100000 in
set_option maxHeartbeats 1000000 in
theorem tIsZeroC (A : Option Addr) (n c : Nat) (l : List Co) (w : World) (hl : l.length = n) (hn : n ≤ 1000000) (h : CoinsAt w A l) :
    Calls Tryz.prog 98 #[.slice A n c] w (RetE (.bool (l.all fun x => sgn x.z == 0)) w) := by
  have HL := Lib.hid hl; have HP := Lib.hid h
  clear hl h
  go_enter Tryz.func98, Tryz.ntmps98
  go_wp2
  go_loopw [7] (fun i wr => ∃ k : Nat, k ≤ n ∧ i = .int .i64 k ∧ (∀ x ∈ l.take k, (sgn x.z == 0) = true) ∧ Ext w wr) (fun i _ => n - (intOf i).toNat)
  case atStart => exact ⟨0, Nat.zero_le _, rfl, (fun x hx => by simp at hx), Ext.refl _⟩
  case round =>
    obtain ⟨k, hk, rfl, hq, hE⟩ := hrel
    have HQ := Lib.hid hq; have HE := Lib.hid hE
    clear hq hE
    by_cases hlt : k < n
    · have hkl : k < l.length := by rw [HL.out]; exact hlt
      obtain ⟨s, hs⟩ : ∃ s, s = l[k].s := ⟨_, rfl⟩
      obtain ⟨b, hb⟩ : ∃ b, b = l[k].b := ⟨_, rfl⟩
      obtain ⟨z, hzz⟩ : ∃ z, z = l[k].z := ⟨_, rfl⟩
      obtain ⟨g, o, hA, hc⟩ := HP.out.1 (by intro e; have := congrArg List.length e; simp at this; rw [this] at hkl; simp at hkl)
      subst hA
      have hck := hc k (by simpa using hkl)
      have cs0 : wr.cell? ⟨g, o + k * 2, none⟩ = some (.string s) := HE.out.cell' (by rw [hck.1, hs]; simp [Co.pair])
      have cs1 : wr.cell? ⟨g, o + k * 2 + 1, none⟩ = some (.pointer (some ⟨b, 0, none⟩)) := HE.out.cell' (by rw [hck.2, hb]; simp [Co.pair])
      have HB := Lib.hid (show BigAt wr b z by rw [hb, hzz]; exact (HP.out.2 _ (List.getElem_mem hkl)).ext HE.out)
      have HZ := Lib.hid hzz; have HM := Lib.hid (List.getElem_mem hkl)
      clear hs hb hzz hck hc
      obtain ⟨r, hr⟩ : ∃ r, r = (sgn z == 0) := ⟨_, rfl⟩
      have HT := Lib.hid (tIsZero s b z _ (HB.out.ext (Ext.alloc' wr (coinBox s b))))
      rw [← hr] at HT
      have HR := Lib.hid hr; clear hr
      cases r
      · have F := Lib.hid (show (l.all fun x => sgn x.z == 0) = false by
          rw [List.all_eq_false]; exact ⟨l[k], HM.out, by rw [← HZ.out, ← HR.out]; simp⟩)
        go_wp2_with (first | (go_at_call 142; (with_reducible refine HT.out.mono ?_); rintro e w1 ⟨rfl, hE⟩; have HE1 := Lib.hid hE; clear hE))
        go_ret
        rw [F.out]; exact ⟨rfl, (HE.out.trans' (Ext.alloc' _ _)).trans' HE1.out⟩
      · go_wp2_with (first | (go_at_call 142; (with_reducible refine HT.out.mono ?_); rintro e w1 ⟨rfl, hE⟩; have HE1 := Lib.hid hE; clear hE))
        go_roundw
        case rel =>
          refine ⟨k + 1, by omega, by go_num, fun x hx => ?_, (HE.out.trans' (Ext.alloc' _ _)).trans' HE1.out⟩
          rw [List.take_succ_eq_append_getElem hkl, List.mem_append, List.mem_singleton] at hx
          rcases hx with hx | rfl
          · exact HQ.out x hx
          · rw [← HZ.out]; exact HR.out.symm
        case measure => simp [intOf]; omega
    · obtain rfl : k = n := by omega
      have F := Lib.hid (show (l.all fun x => sgn x.z == 0) = true by
        have := HQ.out
        rw [List.take_of_length_le (by rw [HL.out]; exact Nat.le_refl _)] at this
        rw [List.all_eq_true]; intro x hx; exact this x hx)
      go_wp2
      go_ret
      rw [F.out]; exact ⟨rfl, HE.out⟩

set_option maxRecDepth 100000 in
set_option maxHeartbeats 1000000 in
theorem tAllPos (A : Option Addr) (n c : Nat) (l : List Co) (w : World) (hl : l.length = n) (hn : n ≤ 1000000) (h : CoinsAt w A l) :
    Calls Tryz.prog 100 #[.slice A n c] w (RetE (.bool ((!l.isEmpty && l.all fun x => sgn x.z == 1))) w) := by
  have HL := Lib.hid hl; have HP := Lib.hid h
  clear hl h
  by_cases h0 : n = 0
  · subst h0
    obtain rfl : l = [] := List.length_eq_zero_iff.1 HL.out
    go_enter Tryz.func100, Tryz.ntmps100
    go_wp2
    go_ret
    exact ⟨rfl, Ext.refl _⟩
  have hd0 : ((n : Int) == 0) = false := by simp; omega
  have HNE := Lib.hid (show (!l.isEmpty) = true by cases l with | nil => exact absurd HL.out.symm h0 | cons a t => rfl)
  clear h0
  go_enter Tryz.func100, Tryz.ntmps100
  go_wp2
  go_loopw [10] (fun i wr => ∃ k : Nat, k ≤ n ∧ i = .int .i64 k ∧ (∀ x ∈ l.take k, (sgn x.z == 1) = true) ∧ Ext w wr) (fun i _ => n - (intOf i).toNat)
  case atStart => exact ⟨0, Nat.zero_le _, rfl, (fun x hx => by simp at hx), Ext.refl _⟩
  case round =>
    obtain ⟨k, hk, rfl, hq, hE⟩ := hrel
    have HQ := Lib.hid hq; have HE := Lib.hid hE
    clear hq hE
    by_cases hlt : k < n
    · have hkl : k < l.length := by rw [HL.out]; exact hlt
      obtain ⟨s, hs⟩ : ∃ s, s = l[k].s := ⟨_, rfl⟩
      obtain ⟨b, hb⟩ : ∃ b, b = l[k].b := ⟨_, rfl⟩
      obtain ⟨z, hzz⟩ : ∃ z, z = l[k].z := ⟨_, rfl⟩
      obtain ⟨g, o, hA, hc⟩ := HP.out.1 (by intro e; have := congrArg List.length e; simp at this; rw [this] at hkl; simp at hkl)
      subst hA
      have hck := hc k (by simpa using hkl)
      have cs0 : wr.cell? ⟨g, o + k * 2, none⟩ = some (.string s) := HE.out.cell' (by rw [hck.1, hs]; simp [Co.pair])
      have cs1 : wr.cell? ⟨g, o + k * 2 + 1, none⟩ = some (.pointer (some ⟨b, 0, none⟩)) := HE.out.cell' (by rw [hck.2, hb]; simp [Co.pair])
      have HB := Lib.hid (show BigAt wr b z by rw [hb, hzz]; exact (HP.out.2 _ (List.getElem_mem hkl)).ext HE.out)
      have HZ := Lib.hid hzz; have HM := Lib.hid (List.getElem_mem hkl)
      clear hs hb hzz hck hc
      obtain ⟨r, hr⟩ : ∃ r, r = (sgn z == 1) := ⟨_, rfl⟩
      have HT := Lib.hid (tIsPositive s b z _ (HB.out.ext (Ext.alloc' wr (coinBox s b))))
      rw [← hr] at HT
      have HR := Lib.hid hr; clear hr
      cases r
      · have F := Lib.hid (show (l.all fun x => sgn x.z == 1) = false by
          rw [List.all_eq_false]; exact ⟨l[k], HM.out, by rw [← HZ.out, ← HR.out]; simp⟩)
        go_wp2_with (first | (go_at_call 143; (with_reducible refine HT.out.mono ?_); rintro e w1 ⟨rfl, hE⟩; have HE1 := Lib.hid hE; clear hE))
        go_ret
        rw [HNE.out, F.out]; exact ⟨rfl, (HE.out.trans' (Ext.alloc' _ _)).trans' HE1.out⟩
      · go_wp2_with (first | (go_at_call 143; (with_reducible refine HT.out.mono ?_); rintro e w1 ⟨rfl, hE⟩; have HE1 := Lib.hid hE; clear hE))
        go_roundw
        case rel =>
          refine ⟨k + 1, by omega, by go_num, fun x hx => ?_, (HE.out.trans' (Ext.alloc' _ _)).trans' HE1.out⟩
          rw [List.take_succ_eq_append_getElem hkl, List.mem_append, List.mem_singleton] at hx
          rcases hx with hx | rfl
          · exact HQ.out x hx
          · rw [← HZ.out]; exact HR.out.symm
        case measure => simp [intOf]; omega
    · obtain rfl : k = n := by omega
      have F := Lib.hid (show (l.all fun x => sgn x.z == 1) = true by
        have := HQ.out
        rw [List.take_of_length_le (by rw [HL.out]; exact Nat.le_refl _)] at this
        rw [List.all_eq_true]; intro x hx; exact this x hx)
      go_wp2
      go_ret
      rw [HNE.out, F.out]; exact ⟨rfl, HE.out⟩

set_option maxRecDepth 100000 in
set_option maxHeartbeats 1000000 in
theorem tAnyNeg (A : Option Addr) (n c : Nat) (l : List Co) (w : World) (hl : l.length = n) (hn : n ≤ 1000000) (h : CoinsAt w A l) :
    Calls Tryz.prog 101 #[.slice A n c] w (RetE (.bool (l.any fun x => sgn x.z == -1)) w) := by
  have HL := Lib.hid hl; have HP := Lib.hid h
  clear hl h
  go_enter Tryz.func101, Tryz.ntmps101
  go_wp2
  go_loopw [7] (fun i wr => ∃ k : Nat, k ≤ n ∧ i = .int .i64 k ∧ (∀ x ∈ l.take k, (sgn x.z == -1) = false) ∧ Ext w wr) (fun i _ => n - (intOf i).toNat)
  case atStart => exact ⟨0, Nat.zero_le _, rfl, (fun x hx => by simp at hx), Ext.refl _⟩
  case round =>
    obtain ⟨k, hk, rfl, hq, hE⟩ := hrel
    have HQ := Lib.hid hq; have HE := Lib.hid hE
    clear hq hE
    by_cases hlt : k < n
    · have hkl : k < l.length := by rw [HL.out]; exact hlt
      obtain ⟨s, hs⟩ : ∃ s, s = l[k].s := ⟨_, rfl⟩
      obtain ⟨b, hb⟩ : ∃ b, b = l[k].b := ⟨_, rfl⟩
      obtain ⟨z, hzz⟩ : ∃ z, z = l[k].z := ⟨_, rfl⟩
      obtain ⟨g, o, hA, hc⟩ := HP.out.1 (by intro e; have := congrArg List.length e; simp at this; rw [this] at hkl; simp at hkl)
      subst hA
      have hck := hc k (by simpa using hkl)
      have cs0 : wr.cell? ⟨g, o + k * 2, none⟩ = some (.string s) := HE.out.cell' (by rw [hck.1, hs]; simp [Co.pair])
      have cs1 : wr.cell? ⟨g, o + k * 2 + 1, none⟩ = some (.pointer (some ⟨b, 0, none⟩)) := HE.out.cell' (by rw [hck.2, hb]; simp [Co.pair])
      have HB := Lib.hid (show BigAt wr b z by rw [hb, hzz]; exact (HP.out.2 _ (List.getElem_mem hkl)).ext HE.out)
      have HZ := Lib.hid hzz; have HM := Lib.hid (List.getElem_mem hkl)
      clear hs hb hzz hck hc
      obtain ⟨r, hr⟩ : ∃ r, r = (sgn z == -1) := ⟨_, rfl⟩
      have HT := Lib.hid (tIsNegative s b z _ (HB.out.ext (Ext.alloc' wr (coinBox s b))))
      rw [← hr] at HT
      have HR := Lib.hid hr; clear hr
      cases r
      · go_wp2_with (first | (go_at_call 138; (with_reducible refine HT.out.mono ?_); rintro e w1 ⟨rfl, hE⟩; have HE1 := Lib.hid hE; clear hE))
        go_roundw
        case rel =>
          refine ⟨k + 1, by omega, by go_num, fun x hx => ?_, (HE.out.trans' (Ext.alloc' _ _)).trans' HE1.out⟩
          rw [List.take_succ_eq_append_getElem hkl, List.mem_append, List.mem_singleton] at hx
          rcases hx with hx | rfl
          · exact HQ.out x hx
          · rw [← HZ.out]; exact HR.out.symm
        case measure => simp [intOf]; omega
      · have F := Lib.hid (show (l.any fun x => sgn x.z == -1) = true by
          rw [List.any_eq_true]; exact ⟨l[k], HM.out, by rw [← HZ.out]; exact HR.out.symm⟩)
        go_wp2_with (first | (go_at_call 138; (with_reducible refine HT.out.mono ?_); rintro e w1 ⟨rfl, hE⟩; have HE1 := Lib.hid hE; clear hE))
        go_ret
        rw [F.out]; exact ⟨rfl, (HE.out.trans' (Ext.alloc' _ _)).trans' HE1.out⟩
    · obtain rfl : k = n := by omega
      have F := Lib.hid (show (l.any fun x => sgn x.z == -1) = false by
        have := HQ.out
        rw [List.take_of_length_le (by rw [HL.out]; exact Nat.le_refl _)] at this
        rw [List.any_eq_false]; intro x hx; rw [this x hx]; simp)
      go_wp2
      go_ret
      rw [F.out]; exact ⟨rfl, HE.out⟩

/-- Validate, for lists of any length. -/
theorem tValidate (A : Option Addr) (n c : Nat) (l : List Co) (w : World) (hl : l.length = n) (hn : n ≤ 1000000) (hc : n ≤ c) (hcm : c ≤ 9223372036854775807) (h : CoinsAt w A l) (hsz : ∀ x ∈ l, x.s.size ≤ 9223372036854775807) :
    Calls Tryz.prog 103 #[.slice A n c] w (RetErrOf (l.map Co.val) w) := by
  rcases n with _ | _ | n
  · obtain rfl : l = [] := List.length_eq_zero_iff.1 hl
    refine (tValidateNone A c w).mono ?_
    rintro e w' ⟨rfl, rfl⟩
    exact ⟨none, fun j => errAt_out (Nat.zero_le _), rfl, Ext.refl _⟩
  · obtain ⟨x, rfl⟩ := List.length_eq_one_iff.1 hl
    refine (tValidateOne A c x w h (hsz x (by simp))).mono ?_
    intro e w' hr
    refine ⟨errOne none x.val, ?_, hr⟩
    have h0 : errAt [x.val] 0 = errOne none x.val := errAt_zero (by simp)
    show ErrIs [x.val] _
    cases ho : errOne none x.val with
    | none => exact errIs_none (k := 0) (fun j hj => (show 0 = j by omega) ▸ (h0.trans ho)) (by simp)
    | some t => exact ⟨0, by rw [h0, ho], fun i hi => absurd hi (Nat.not_lt_zero _)⟩
  · exact tValidateMany A (n + 1 + 1) c l w hl (by omega) hn hc hcm h hsz

set_option maxRecDepth 100000 in
theorem tIsValidC (A : Option Addr) (n c : Nat) (l : List Co) (w : World) (hl : l.length = n) (hn : n ≤ 1000000) (hc : n ≤ c) (hcm : c ≤ 9223372036854775807) (h : CoinsAt w A l) (hsz : ∀ x ∈ l, x.s.size ≤ 9223372036854775807) :
    Calls Tryz.prog 97 #[.slice A n c] w fun e w' => ∃ o, ErrIs (l.map Co.val) o ∧ e = .returned (.bool o.isNone) ∧ Ext w w' := by
  have H := Lib.hid (tValidate A n c l w hl hn hc hcm h hsz)
  clear hl hn hc hcm h hsz
  go_enter Tryz.func97, Tryz.ntmps97
  go_wp2_with (fail)
  go_at_call 103
  refine H.out.mono ?_
  rintro e w1 ⟨o, ho, hr⟩
  have HO := Lib.hid ho; clear ho
  cases o with
  | none =>
    obtain ⟨rfl, hE⟩ := hr
    have HE := Lib.hid hE; clear hE
    go_wp2
    go_ret
    exact ⟨none, HO.out, rfl, HE.out⟩
  | some t =>
    obtain ⟨b, rfl, hB, hE⟩ := hr
    have HE := Lib.hid hE; clear hE hB
    go_wp2
    go_ret
    exact ⟨some t, HO.out, rfl, HE.out⟩

set_option maxRecDepth 100000 in
theorem tEmptyC (A : Option Addr) (n c : Nat) (w : World) : Calls Tryz.prog 99 #[.slice A n c] w (RetE (.bool (decide (n = 0))) w) := by
  by_cases h0 : n = 0
  · subst h0
    go_enter Tryz.func99, Tryz.ntmps99
    go_wp2
    go_ret
    exact ⟨rfl, Ext.refl _⟩
  · have hd0 : ((n : Int) == 0) = false := by simp; omega
    have F := Lib.hid (show decide (n = 0) = false by simpa using h0)
    clear h0
    go_enter Tryz.func99, Tryz.ntmps99
    go_wp2
    go_ret
    rw [F.out]; exact ⟨rfl, Ext.refl _⟩
end Go.Proofs.YtagfbefgcijegaaGreatDoor
