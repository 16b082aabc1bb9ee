/-
  The contract of the laws' sumAwake: it returns true.
  Contracts of the laws' sizes, and of the reference's IsSumList.
  Contracts of the reference's SumSame and SumWithout.
  What the laws' walks share: lists handed back read as arguments; what the reference's guards tell.
  The contract of Coins.Find (a binary search that calls itself).
  The contract of Coins.Validate: the first thing that is wrong with coins as a set.
  The contracts of Coins.IsZero, IsAllPositive, IsAnyNegative, Empty, IsValid.
  The contract of impl.SortOf, up to 12 coins.
  The contracts of Coins.Equal and impl.EqualOf.
  The contract of the reference's SumSorted, and of IsSumOnce.
-/
import Derived.Test.YtfocejhcdcnnhaaGreatDoorGY
import Derived.Test.YtfocejhcdcnnhaaGreatDoorGE
import Derived.Test.YtfocejhcdcnnhaaGreatDoorGC
import Derived.BigQuiet
import Derived.Test.YtfocejhcdcnnhaaGreatDoorGB
import Derived.Deep.RegionLawGrows
import Derived.Deep.RegionHeld3
namespace Go.Proofs.YtfocejhcdcnnhaaGreatDoor
open Go Go.RowKit Go.Maps

end Go.Proofs.YtfocejhcdcnnhaaGreatDoor

namespace Go.Proofs.YtfocejhcdcnnhaaGreatDoor
open Go Go.RowKit

/-- At most 8 coins, of denominations, with amounts of at most 2^40 from 0. -/
def listB (l : List (ByteArray × Int)) : Bool := decide (l.length ≤ 8 ∧ ∀ x ∈ l, denomB x.1 = true ∧ -1099511627776 ≤ x.2 ∧ x.2 ≤ 1099511627776)
end Go.Proofs.YtfocejhcdcnnhaaGreatDoor

namespace Go.Proofs.YtfocejhcdcnnhaaGreatDoor
open Go Go.RowKit

end Go.Proofs.YtfocejhcdcnnhaaGreatDoor

namespace Go.Proofs.YtfocejhcdcnnhaaGreatDoor
open Go Go.RowKit

theorem both {α : Type} {Q : α → Prop} {l m : List α} (h : ∀ x ∈ l, Q x) (k : ∀ x ∈ m, Q x) : ∀ x ∈ l ++ m, Q x := fun x hx => (List.mem_append.1 hx).elim (h x) (k x)
end Go.Proofs.YtfocejhcdcnnhaaGreatDoor

namespace Go.Proofs.YtfocejhcdcnnhaaGreatDoor
open Go Go.RowKit

end Go.Proofs.YtfocejhcdcnnhaaGreatDoor

namespace Go.Proofs.YtfocejhcdcnnhaaGreatDoor
open Go Go.RowKit

/-- "denomination is not sorted", "duplicate denomination", "coin amount is not positive". -/
abbrev notSorted : ByteArray := ⟨#[100, 101, 110, 111, 109, 105, 110, 97, 116, 105, 111, 110, 32, 105, 115, 32, 110, 111, 116, 32, 115, 111, 114, 116, 101, 100]⟩
abbrev duplDenom : ByteArray := ⟨#[100, 117, 112, 108, 105, 99, 97, 116, 101, 32, 100, 101, 110, 111, 109, 105, 110, 97, 116, 105, 111, 110]⟩
abbrev notPos : ByteArray := ⟨#[99, 111, 105, 110, 32, 97, 109, 111, 117, 110, 116, 32, 105, 115, 32, 110, 111, 116, 32, 112, 111, 115, 105, 116, 105, 118, 101]⟩
/-- What is wrong with a coin behind one of the name p. -/
def errOne (p : Option ByteArray) (x : ByteArray × Int) : Option ByteArray :=
  if denomB x.1 = false then some invDenom else
  match p with
  | some q => if keyLt x.1 q = true then some notSorted else if x.1 = q then some duplDenom else if x.2 ≤ 0 then some notPos else none
  | none => if x.2 ≤ 0 then some notPos else none
def errAt (l : List (ByteArray × Int)) (j : Nat) : Option ByteArray :=
  match l[j]? with
  | none => none
  | some x => errOne (if j = 0 then none else (l[j - 1]?).map Prod.fst) x
/-- The first thing that is wrong with a list; none: nothing. -/
def ErrIs (l : List (ByteArray × Int)) (o : Option ByteArray) : Prop :=
  match o with
  | none => ∀ j, errAt l j = none
  | some t => ∃ j, errAt l j = some t ∧ ∀ i, i < j → errAt l i = none
theorem errIs_unique {l : List (ByteArray × Int)} {o o' : Option ByteArray} (h : ErrIs l o) (h' : ErrIs l o') : o = o' := by
  cases o with
  | none =>
    cases o' with
    | none => rfl
    | some t =>
      obtain ⟨j, hj, _⟩ := h'
      have := h j; rw [hj] at this; cases this
  | some t =>
    obtain ⟨j, hj, hi⟩ := h
    cases o' with
    | none => have := h' j; rw [hj] at this; cases this
    | some t' =>
      obtain ⟨j', hj', hi'⟩ := h'
      rcases Nat.lt_trichotomy j j' with e | e | e
      · have := hi' j e; rw [hj] at this; cases this
      · subst e; rw [hj] at hj'; exact hj'
      · have := hi j' e; rw [hj'] at this; cases this
theorem errAt_zero {l : List (ByteArray × Int)} (h : 0 < l.length) : errAt l 0 = errOne none l[0] := by unfold errAt; rw [List.getElem?_eq_getElem h]; rfl
theorem errAt_succ {l : List (ByteArray × Int)} {k : Nat} (h : k + 1 < l.length) : errAt l (k + 1) = errOne (some l[k].1) l[k + 1] := by
  unfold errAt; rw [List.getElem?_eq_getElem h, if_neg (by omega), Nat.add_sub_cancel, List.getElem?_eq_getElem (by omega)]; rfl
theorem errAt_out {l : List (ByteArray × Int)} {j : Nat} (h : l.length ≤ j) : errAt l j = none := by unfold errAt; rw [List.getElem?_eq_none h]
theorem errIs_none {l : List (ByteArray × Int)} {k : Nat} (h : ∀ j, j ≤ k → errAt l j = none) (hk : l.length ≤ k + 1) : ErrIs l none := fun j => by
  rcases Nat.lt_or_ge k j with e | e
  · exact errAt_out (by omega)
  · exact h j e
theorem errIs_some {l : List (ByteArray × Int)} {k : Nat} {t : ByteArray} (h : ∀ j, j ≤ k → errAt l j = none) (e : errAt l (k + 1) = some t) : ErrIs l (some t) := ⟨k + 1, e, fun i hi => h i (by omega)⟩
theorem sgn_pos (z : Int) : (sgn z == 1) = decide (0 < z) := by
  unfold sgn
  by_cases h1 : z < 0
  · rw [if_pos h1]; have : ¬ 0 < z := by omega
    simp [this]
  · rw [if_neg h1]
    by_cases h2 : 0 < z
    · rw [if_pos h2]; simp [h2]
    · rw [if_neg h2]; simp [h2]

/-- No error, or this one. -/
def RetErrO (o : Option ByteArray) (w : World) (e : Ending) (w' : World) : Prop :=
  match o with
  | none => e = .returned .nilIface ∧ Ext w w'
  | some t => RetErr t w e w'
def RetErrOf (l : List (ByteArray × Int)) (w : World) (e : Ending) (w' : World) : Prop := ∃ o, ErrIs l o ∧ RetErrO o w e w'
theorem tValidBad {s : ByteArray} (hs : s.size ≤ 9223372036854775807) (h : denomB s = false) (w : World) : Calls Tryz.prog 106 #[.string s] w (RetErr invDenom w) :=
  (tValid s w hs).mono (by rw [h]; rintro e w' (⟨h, _⟩ | ⟨_, h⟩); cases h; exact h)
theorem tValidGood {s : ByteArray} (hs : s.size ≤ 9223372036854775807) (h : denomB s = true) (w : World) : Calls Tryz.prog 106 #[.string s] w (fun e w' => e = .returned .nilIface ∧ w' = w) :=
  (tValid s w hs).mono (by rw [h]; rintro e w' (⟨_, h⟩ | ⟨h, _⟩); exact h; cases h)

set_option maxRecDepth 100000 in
set_option maxHeartbeats 1000000 in
theorem tValidateOne (A : Option Addr) (c : Nat) (x : Co) (w : World) (h : CoinsAt w A [x]) (hsz : x.s.size ≤ 9223372036854775807) :
    Calls Tryz.prog 98 #[.slice A 1 c] w (RetErrO (errOne none x.val) w) := by
  obtain ⟨s, b, z⟩ := x
  obtain ⟨g, o, hA, hc⟩ := h.1 (by simp)
  subst hA
  have hck := hc 0 (by simp)
  have cs0 : w.cell? ⟨g, o, none⟩ = some (.string s) := by have := hck.1; simpa [Co.pair] using this
  have cs1 : w.cell? ⟨g, o + 1, none⟩ = some (.pointer (some ⟨b, 0, none⟩)) := by have := hck.2; simpa [Co.pair] using this
  have HB := Lib.hid (show BigAt w b z from h.2 _ (List.mem_singleton.2 rfl))
  have HP := Lib.hid (fun (W : World) (e : Ext w W) => tIsPositive s b z W (HB.out.ext e))
  rw [sgn_pos] at HP
  show Calls _ _ _ _ (RetErrO (errOne none (s, z)) w)
  clear h hc hck
  cases hd : denomB s
  · have HV := Lib.hid (tValidBad hsz hd)
    have F := Lib.hid (show errOne none (s, z) = some invDenom by unfold errOne; rw [if_pos hd])
    clear hd
    go_enter Tryz.func98, Tryz.ntmps98
    go_wp2_with (first | (go_at_call 106; refine (HV.out _).mono ?_; rintro e w1 ⟨eb, rfl, hB, hE⟩; have HEB := Lib.hid hB; have HE1 := Lib.hid hE; clear hB hE))
    go_ret
    rw [F.out]; exact ⟨eb, rfl, HEB.out, HE1.out⟩
  · have HV := Lib.hid (tValidGood hsz hd)
    have HD := Lib.hid hd; clear hd
    obtain ⟨r, hr⟩ : ∃ r, r = decide (0 < z) := ⟨_, rfl⟩
    rw [← hr] at HP
    have HR := Lib.hid hr; clear hr
    cases r
    · have F := Lib.hid (show errOne none (s, z) = some notPos by unfold errOne; rw [if_neg (by rw [HD.out]; simp)]; exact if_pos (by have := of_decide_eq_false HR.out.symm; omega))
      go_enter Tryz.func98, Tryz.ntmps98
      go_wp2_with (first | (go_at_call 106; refine (HV.out _).mono ?_; rintro e w1 ⟨rfl, hw⟩; subst hw) | (go_at_call 131; refine (HP.out _ (Ext.refl _)).mono ?_; rintro e w2 ⟨rfl, hE⟩; have HE2 := Lib.hid hE; clear hE) | (go_at_call 96; refine (eNew notPos _).mono ?_; rintro e w3 ⟨eb, rfl, hB, hE⟩; have HEB := Lib.hid hB; have HE3 := Lib.hid hE; clear hB hE))
      go_ret
      rw [F.out]; exact ⟨eb, rfl, HEB.out, HE2.out.trans' HE3.out⟩
    · have F := Lib.hid (show errOne none (s, z) = none by unfold errOne; rw [if_neg (by rw [HD.out]; simp)]; exact if_neg (by have := of_decide_eq_true HR.out.symm; omega))
      go_enter Tryz.func98, Tryz.ntmps98
      go_wp2_with (first | (go_at_call 106; refine (HV.out _).mono ?_; rintro e w1 ⟨rfl, hw⟩; subst hw) | (go_at_call 131; refine (HP.out _ (Ext.refl _)).mono ?_; rintro e w2 ⟨rfl, hE⟩; have HE2 := Lib.hid hE; clear hE))
      go_ret
      rw [F.out]; exact ⟨rfl, HE2.out⟩

set_option maxRecDepth 100000 in
theorem tValidateNone (A : Option Addr) (c : Nat) (w : World) : Calls Tryz.prog 98 #[.slice A 0 c] w fun e w' => e = .returned .nilIface ∧ w' = w := by
  go_enter Tryz.func98, Tryz.ntmps98
  go_wp2
  go_ret
  exact ⟨rfl, rfl⟩

set_option maxRecDepth 100000 in
set_option maxHeartbeats 4000000 in
theorem tValidateMany (A : Option Addr) (n c : Nat) (l : List Co) (w : World) (hl : l.length = n) (h2 : 2 ≤ n) (hn : n ≤ 1000000) (hc : n ≤ c) (hcm : c ≤ 9223372036854775807) (h : CoinsAt w A l) (hsz : ∀ x ∈ l, x.s.size ≤ 9223372036854775807) :
    Calls Tryz.prog 98 #[.slice A n c] w (RetErrOf (l.map Co.val) w) := by
  have HL := Lib.hid hl; have HP0 := Lib.hid h; have HSZ := Lib.hid hsz
  have hlv : (l.map Co.val).length = n := by simp [hl]
  have HLV := Lib.hid hlv
  have h0l : 0 < l.length := by omega
  obtain ⟨g, o, hA, hcc⟩ := h.1 (by intro e; have := congrArg List.length e; simp at this; rw [this] at h0l; simp at h0l)
  subst hA
  obtain ⟨s0, hs0⟩ : ∃ s, s = l[0].s := ⟨_, rfl⟩
  obtain ⟨a0, ha0⟩ : ∃ b, b = l[0].b := ⟨_, rfl⟩
  have HCC := Lib.hid hcc
  have hck := hcc 0 (by simpa using h0l)
  have cs0 : w.cell? ⟨g, o, none⟩ = some (.string s0) := by have := hck.1; rw [hs0]; simpa [Co.pair] using this
  have cs1 : w.cell? ⟨g, o + 1, none⟩ = some (.pointer (some ⟨a0, 0, none⟩)) := by have := hck.2; rw [ha0]; simpa [Co.pair] using this
  have gl := cell_lt cs0
  have HX0 := Lib.hid (show CoinsAt (w.alloc (coinBox s0 a0)) (some ⟨w.heap.size, 0, none⟩) [l[0]] from ⟨fun _ => ⟨w.heap.size, 0, rfl, fun j hj => by
    obtain rfl : j = 0 := by simp at hj; omega
    exact ⟨by rw [cell_new]; simp [Co.pair, hs0], by rw [cell_new]; simp [Co.pair, ha0]⟩⟩, fun y hy => by
    obtain rfl := List.mem_singleton.1 hy
    exact (h.2 _ (List.getElem_mem h0l)).ext (Ext.alloc' _ _)⟩)
  have H1 := Lib.hid (tValidateOne (some ⟨w.heap.size, 0, none⟩) 1 l[0] _ HX0.out (hsz _ (List.getElem_mem h0l)))
  have F0 := Lib.hid (show errAt (l.map Co.val) 0 = errOne none (Co.val l[0]) by rw [errAt_zero (by omega)]; simp)
  have HS0 := Lib.hid (show s0 = Co.s l[0] from hs0)
  obtain ⟨o1, ho1⟩ : ∃ o1, o1 = errOne none (Co.val l[0]) := ⟨_, rfl⟩
  rw [← ho1] at H1 F0
  have hd2 : ((n : Int) == 0) = false := by simp; omega
  have hd3 : ((n : Int) == 1) = false := by simp; omega
  have hc1 : ¬ c = 1 := by omega
  have b0 : (1 : Int) ≤ (n : Int) := by omega
  have b1 : (n : Int) ≤ (c : Int) := by omega
  have b2 : (0 : Int) < (n : Int) := by omega
  have b3 : (1 : Int) ≤ (c : Int) := by omega
  clear h hsz hcc hck hl hs0 ha0 ho1 hlv
  cases o1 with
  | some t =>
    go_enter Tryz.func98, Tryz.ntmps98
    go_wp2_with (fail)
    go_at_call 98
    refine H1.out.mono ?_
    rintro e w1 ⟨eb, rfl, hB, hE⟩
    have HEB := Lib.hid hB; have HE := Lib.hid hE; clear hB hE
    go_wp2
    go_ret
    exact ⟨some t, ⟨0, F0.out, fun i hi => absurd hi (Nat.not_lt_zero _)⟩, eb, rfl, HEB.out, (Ext.alloc' _ _).trans' HE.out⟩
  | none =>
    go_enter Tryz.func98, Tryz.ntmps98
    go_wp2_with (fail)
    go_at_call 98
    refine H1.out.mono ?_
    rintro e w1 ⟨rfl, hE⟩
    have HE1 := Lib.hid ((Ext.alloc' _ _).trans' hE); clear hE
    have cs0' := HE1.out.cell' cs0
    clear cs0 cs1 gl
    go_wp2
    go_loopw [5, 26] (fun v i wr => ∃ k : Nat, k + 1 ≤ n ∧ i = .int .i64 k ∧ (∃ hk : k < l.length, v = .string l[k].s) ∧ (∀ j, j ≤ k → errAt (l.map Co.val) j = none) ∧ Ext w wr) (fun _ i _ => n - (intOf i).toNat)
    case atStart => exact ⟨0, by omega, rfl, ⟨h0l, by rw [HS0.out]⟩, fun j hj => (show 0 = j by omega) ▸ F0.out, HE1.out⟩
    case round =>
      obtain ⟨k, hk, rfl, ⟨hkl, rfl⟩, hq, hE⟩ := hrel
      have HQ := Lib.hid hq; have HE := Lib.hid hE
      clear hq hE
      obtain ⟨low, hlow⟩ : ∃ low, low = l[k].s := ⟨_, rfl⟩
      have HLOW := Lib.hid hlow
      rw [← hlow]
      clear hlow
      by_cases hlt : k + 1 < n
      · have hkl1 : k + 1 < l.length := by rw [HL.out]; exact hlt
        obtain ⟨s, hss⟩ : ∃ s, s = l[k + 1].s := ⟨_, rfl⟩
        obtain ⟨b, hbb⟩ : ∃ b, b = l[k + 1].b := ⟨_, rfl⟩
        obtain ⟨z, hzz⟩ : ∃ z, z = l[k + 1].z := ⟨_, rfl⟩
        have hck := HCC.out (k + 1) (by simpa using hkl1)
        have hoff : o + (k + 1) * 2 = o + 2 + k * 2 := by omega
        rw [hoff] at hck
        have cs0 : wr.cell? ⟨g, o + 2 + k * 2, none⟩ = some (.string s) := HE.out.cell' (by rw [hck.1, hss]; simp [Co.pair])
        have cs1 : wr.cell? ⟨g, o + 2 + k * 2 + 1, none⟩ = some (.pointer (some ⟨b, 0, none⟩)) := HE.out.cell' (by rw [hck.2, hbb]; simp [Co.pair])
        have gl := cell_lt cs0
        have HB := Lib.hid (show BigAt wr b z by rw [hbb, hzz]; exact (HP0.out.2 _ (List.getElem_mem hkl1)).ext HE.out)
        have HP := Lib.hid (fun (W : World) (e : Ext wr W) => tIsPositive s b z W (HB.out.ext e))
        rw [sgn_pos] at HP
        have hz := HSZ.out _ (List.getElem_mem hkl1)
        rw [← hss] at hz
        have FX := Lib.hid (show errAt (l.map Co.val) (k + 1) = errOne (some low) (s, z) by
          rw [errAt_succ (by rw [HLV.out]; exact hlt)]; simp [HLOW.out, hss, hzz, Co.val])
        have m1 : (k : Int) < (n : Int) - 1 := by omega
        have m2 : k < n - 1 := by omega
        have HSS := Lib.hid hss
        clear hss hbb hzz hck hoff
        cases hd : denomB s
        · have HV := Lib.hid (tValidBad hz hd)
          have F := Lib.hid (show errOne (some low) (s, z) = some invDenom by unfold errOne; rw [if_pos hd])
          clear hd hz
          go_wp2_with (first | (go_at_call 106; refine (HV.out _).mono ?_; rintro e w2 ⟨eb, rfl, hB, hE⟩; have HEB := Lib.hid hB; have HE2 := Lib.hid hE; clear hB hE))
          go_ret
          exact ⟨some invDenom, errIs_some HQ.out (FX.out.trans F.out), eb, rfl, HEB.out, (HE.out.trans' (Ext.alloc' _ _)).trans' HE2.out⟩
        · have HV := Lib.hid (tValidGood hz hd)
          have HD := Lib.hid hd; clear hd hz
          cases h1 : keyLt s low
          · by_cases h2 : s = low
            · subst h2
              have g1 : Op.bytesLess s.toList s.toList = false := h1
              have F := Lib.hid (show errOne (some s) (s, z) = some duplDenom by unfold errOne; rw [if_neg (by rw [HD.out]; simp)]; show (if keyLt s s = true then _ else _) = _; rw [if_neg (by rw [h1]; simp), if_pos rfl])
              clear h1
              go_wp2_with (first | (go_at_call 106; refine (HV.out _).mono ?_; rintro e w2 ⟨rfl, hw⟩; subst hw) | (go_at_call 96; refine (eNew duplDenom _).mono ?_; rintro e w4 ⟨eb, rfl, hB, hE⟩; have HEB := Lib.hid hB; have HE4 := Lib.hid hE; clear hB hE))
              go_ret
              exact ⟨some duplDenom, errIs_some HQ.out (FX.out.trans F.out), eb, rfl, HEB.out, (HE.out.trans' (Ext.alloc' _ _)).trans' HE4.out⟩
            · have g1 : Op.bytesLess s.toList low.toList = false := h1
              have g2 : (s.toList == low.toList) = false := by rw [key_beq]; simpa using h2
              obtain ⟨r, hr⟩ : ∃ r, r = decide (0 < z) := ⟨_, rfl⟩
              rw [← hr] at HP
              have HR := Lib.hid hr; clear hr
              cases r
              · have F := Lib.hid (show errOne (some low) (s, z) = some notPos by unfold errOne; rw [if_neg (by rw [HD.out]; simp)]; show (if keyLt s low = true then _ else _) = _; rw [if_neg (by rw [h1]; simp), if_neg h2, if_pos (by have := of_decide_eq_false HR.out.symm; simp at this ⊢; omega)])
                clear h1 h2
                go_wp2_with (first | (go_at_call 106; refine (HV.out _).mono ?_; rintro e w2 ⟨rfl, hw⟩; subst hw) | (go_at_call 131; refine (HP.out _ (Ext.alloc' _ _)).mono ?_; rintro e w3 ⟨rfl, hE⟩; have HE3 := Lib.hid hE; clear hE) | (go_at_call 96; refine (eNew notPos _).mono ?_; rintro e w4 ⟨eb, rfl, hB, hE⟩; have HEB := Lib.hid hB; have HE4 := Lib.hid hE; clear hB hE))
                go_ret
                exact ⟨some notPos, errIs_some HQ.out (FX.out.trans F.out), eb, rfl, HEB.out, ((HE.out.trans' (Ext.alloc' _ _)).trans' HE3.out).trans' HE4.out⟩
              · have F := Lib.hid (show errOne (some low) (s, z) = none by unfold errOne; rw [if_neg (by rw [HD.out]; simp)]; show (if keyLt s low = true then _ else _) = _; rw [if_neg (by rw [h1]; simp), if_neg h2, if_neg (by have := of_decide_eq_true HR.out.symm; simp at this ⊢; omega)])
                clear h1 h2
                go_wp2_with (first | (go_at_call 106; refine (HV.out _).mono ?_; rintro e w2 ⟨rfl, hw⟩; subst hw) | (go_at_call 131; refine (HP.out _ (Ext.alloc' _ _)).mono ?_; rintro e w3 ⟨rfl, hE⟩; have k0 := ((blk_new0 wr 139 [.string s, .pointer (some ⟨b, 0, none⟩)]).ext hE); have c0 : w3.cell? ⟨wr.heap.size, 0, none⟩ = some (.string s) := (k0.cell 0).trans rfl; have HE3 := Lib.hid hE; clear hE k0))
                go_roundw
                case rel =>
                  refine ⟨k + 1, by omega, by go_num, ⟨hkl1, by rw [HSS.out]⟩, fun j hj => ?_, (HE.out.trans' (Ext.alloc' _ _)).trans' HE3.out⟩
                  by_cases e : j = k + 1
                  · subst e; exact FX.out.trans F.out
                  · exact HQ.out j (by omega)
                case measure => simp [intOf]; omega
          · have g1 : Op.bytesLess s.toList low.toList = true := h1
            have F := Lib.hid (show errOne (some low) (s, z) = some notSorted by unfold errOne; rw [if_neg (by rw [HD.out]; simp)]; show (if keyLt s low = true then _ else _) = _; rw [if_pos h1])
            clear h1
            go_wp2_with (first | (go_at_call 106; refine (HV.out _).mono ?_; rintro e w2 ⟨rfl, hw⟩; subst hw) | (go_at_call 96; refine (eNew notSorted _).mono ?_; rintro e w4 ⟨eb, rfl, hB, hE⟩; have HEB := Lib.hid hB; have HE4 := Lib.hid hE; clear hB hE))
            go_ret
            exact ⟨some notSorted, errIs_some HQ.out (FX.out.trans F.out), eb, rfl, HEB.out, (HE.out.trans' (Ext.alloc' _ _)).trans' HE4.out⟩
      · have m2 : ¬ k < n - 1 := by omega
        have m1 : ¬ (k : Int) < (n : Int) - 1 := by omega
        have FN := Lib.hid (errIs_none HQ.out (by rw [HLV.out]; omega))
        go_wp2
        go_ret
        exact ⟨none, FN.out, rfl, HE.out⟩
end Go.Proofs.YtfocejhcdcnnhaaGreatDoor

namespace Go.Proofs.YtfocejhcdcnnhaaGreatDoor
open Go Go.RowKit

/-- Validate, for lists of any length. -/
theorem tValidate (A : Option Addr) (n c : Nat) (l : List Co) (w : World) (hl : l.length = n) (hn : n ≤ 1000000) (hc : n ≤ c) (hcm : c ≤ 9223372036854775807) (h : CoinsAt w A l) (hsz : ∀ x ∈ l, x.s.size ≤ 9223372036854775807) :
    Calls Tryz.prog 98 #[.slice A n c] w (RetErrOf (l.map Co.val) w) := by
  rcases n with _ | _ | n
  · obtain rfl : l = [] := List.length_eq_zero_iff.1 hl
    refine (tValidateNone A c w).mono ?_
    rintro e w' ⟨rfl, rfl⟩
    exact ⟨none, fun j => errAt_out (Nat.zero_le _), rfl, Ext.refl _⟩
  · obtain ⟨x, rfl⟩ := List.length_eq_one_iff.1 hl
    refine (tValidateOne A c x w h (hsz x (by simp))).mono ?_
    intro e w' hr
    refine ⟨errOne none x.val, ?_, hr⟩
    have h0 : errAt [x.val] 0 = errOne none x.val := errAt_zero (by simp)
    show ErrIs [x.val] _
    cases ho : errOne none x.val with
    | none => exact errIs_none (k := 0) (fun j hj => (show 0 = j by omega) ▸ (h0.trans ho)) (by simp)
    | some t => exact ⟨0, by rw [h0, ho], fun i hi => absurd hi (Nat.not_lt_zero _)⟩
  · exact tValidateMany A (n + 1 + 1) c l w hl (by omega) hn hc hcm h hsz

end Go.Proofs.YtfocejhcdcnnhaaGreatDoor

namespace Go.Proofs.YtfocejhcdcnnhaaGreatDoor
open Go Go.RowKit

set_option maxRecDepth 100000 in
theorem tSortNil (w : World) : Calls Tryz.prog 130 #[.slice none 0 0] w fun e w' => e = .returned (.slice none 0 0) ∧ w' = w := by
  go_enter Tryz.func130, Tryz.ntmps130
  go_wp2
  go_ret
  exact ⟨rfl, rfl⟩
end Go.Proofs.YtfocejhcdcnnhaaGreatDoor

namespace Go.Proofs.YtfocejhcdcnnhaaGreatDoor
open Go Go.RowKit

/-- Sorted in a row of the call's own; nothing but that row has turned. -/
def RetSortRow (base : Nat) (v : Value) (L0 : List Co) (w : World) (e : Ending) (w' : World) : Prop :=
  ∃ L, e = .returned v ∧ CoinsOwn w' base v L ∧ L.Perm L0 ∧ (L.Pairwise fun a b => le (Co.s a) (Co.s b)) ∧ w.grownBy w' v.ownBlock
theorem tSortRow {base : Nat} {v : Value} {L0 : List Co} {w : World} (h : CoinsOwn w base v L0) (hn : L0.length ≤ 12) : Calls Tryz.prog 130 #[v] w (RetSortRow base v L0 w) := by
  rcases h.1.2 with ⟨hv, hn0⟩ | ⟨g, cap, cur, hv, hbg, hgb, hnc, hcm, hcs, hct⟩
  · subst hv
    obtain rfl : L0 = [] := List.length_eq_zero_iff.1 hn0
    refine (tSortNil w).mono ?_
    rintro e w' ⟨rfl, rfl⟩
    exact ⟨[], rfl, CoinsOwn.nil _ _, List.Perm.refl _, List.Pairwise.nil, World.grownBy.refl _ _⟩
  · subst hv
    have hrow := row_of_own hgb hct
    refine (tSort g L0.length cap L0 _ w hrow rfl (Or.inl hn)).mono ?_
    rintro e w' ⟨rfl, L, hr, ho, hP, hS⟩
    have hl := hP.length_eq
    have h1 : (flat2 (L.map Co.pair)).length = L.length * 2 := by rw [flat2_length]; simp
    refine ⟨L, rfl, ⟨⟨by rw [flat2_length]; simp, Or.inr ⟨g, cap, (flat2 (L.map Co.pair) ++ cur.toList.drop (L0.length * 2)).toArray, by rw [hl], hbg, hr, by omega, hcm, ?_, ?_⟩⟩, fun x hx => (h.2 x (hP.mem_iff.1 hx)).only ho hrow⟩, hP, hS, ho⟩
    · simp [h1]; omega
    · rw [show (flat2 (L.map Co.pair) ++ cur.toList.drop (L0.length * 2)).toArray.toList = flat2 (L.map Co.pair) ++ cur.toList.drop (L0.length * 2) from rfl, List.take_append_of_le_length (by omega), List.take_of_length_le (by omega)]
theorem own_block {w : World} {base : Nat} {v : Value} {L : List Co} (h : CoinsOwn w base v L) : ∀ g, v.ownBlock = some g → base ≤ g ∧ g < w.heap.size := by
  intro g hg
  rcases h.1.2 with ⟨hv, _⟩ | ⟨g', cap, cur, hv, hb, hh, _⟩
  · subst hv; simp [Value.ownBlock] at hg
  · subst hv
    simp [Value.ownBlock] at hg
    subst hg
    exact ⟨hb, (Array.getElem?_eq_some_iff.1 hh).1⟩
theorem grown_old {w w' : World} {base : Nat} {v : Value} {L : List Co} (h : CoinsOwn w base v L) (hg : w.grownBy w' v.ownBlock) {w0 : World} (e0 : Ext w0 w) (hb : w0.heap.size ≤ base) : Ext w0 w' :=
  Below.grown e0 hg e0.size (fun g hv => Nat.le_trans hb (own_block h g hv).1)

end Go.Proofs.YtfocejhcdcnnhaaGreatDoor

namespace Go.Proofs.YtfocejhcdcnnhaaGreatDoor
open Go Go.RowKit

theorem ext_none {a b : World} (h : a.grownBy b none) : Ext a b := ⟨h.os, h.tape, h.output, h.size, fun i hi => h.block i hi (by simp)⟩
end Go.Proofs.YtfocejhcdcnnhaaGreatDoor
