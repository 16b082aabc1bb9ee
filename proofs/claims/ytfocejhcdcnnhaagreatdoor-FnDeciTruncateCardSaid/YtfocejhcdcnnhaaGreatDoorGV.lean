/-
  A map of names that were seen (map[string]bool): made, asked, stored into.
  The contracts of DecCoin.Validate and DecCoins.Validate: the first thing that is wrong; impl.DecOneErr and DecErr.
  The contract of DecCoins.Validate for lists of any length; impl.DecOneErr and DecErr.
  append of a list of records of any size onto a row of the call's own; the laws' deciOwn.
  What DecCoins tell of themselves: IsValid, IsZero, Empty, IsAllPositive, IsAnyNegative; impl.DecAbout.
-/
import Derived.Test.YtfocejhcdcnnhaaGreatDoorGA
import Derived.Test.YtfocejhcdcnnhaaGreatDoorChecked
import Derived.Maps.RangeWalk
import Derived.Test.YtfocejhcdcnnhaaGreatDoorGQ
import Derived.Test.YtfocejhcdcnnhaaGreatDoorGC
import Derived.Test.YtfocejhcdcnnhaaGreatDoorGE
import Derived.Deep.Cut
namespace Go.Proofs.YtfocejhcdcnnhaaGreatDoor
open Go Go.RowKit Go.Maps

/-- A key of a map of names. -/
def sk (s : ByteArray) : Lit := .string s.data.toList
theorem sk_inj {s t : ByteArray} (h : sk s = sk t) : s = t := by
  unfold sk at h; injection h with h
  exact ByteArray.ext (Array.ext' h)
theorem keyOf_sk {P : Program} {k : TypeId} (hk : P.underlying k = some .string) {s : ByteArray} (hs : s.size ≤ maxLen) : keyOf P k (.string s) = some (sk s) := by
  simp [keyOf, hk, mapKey, hs, sk]
def asV (v : Value) : Option (DataW Value × List MemPlace) := some (.held v, [])
theorem seenK : Keyed Tryz.prog 9 := string_keyed Tryz.underlying9
/-- Is a name among these? -/
def seenB (S : List ByteArray) (s : ByteArray) : Bool := S.any fun t => decide (t = s)
theorem seenB_iff (S : List ByteArray) (s : ByteArray) : seenB S s = true ↔ s ∈ S := by
  unfold seenB
  rw [List.any_eq_true]
  exact ⟨fun ⟨t, h, e⟩ => by have := of_decide_eq_true e; subst this; exact h, fun h => ⟨s, h, decide_eq_true rfl⟩⟩
/-- The names seen so far, in the map of block M. -/
def Seen (W : World) (M : Nat) (S : List ByteArray) : Prop :=
  ∃ D : DataW Value, W.ownsMap Tryz.prog 9 asV M S.length D ∧ (∀ s, has D (sk s) = true ↔ s ∈ S) ∧ ∀ s, s ∈ S → ∀ z, D.atKey (sk s) z = .held (.bool true)
theorem seenOwn {w w' : World} {M n : Nat} {D : DataW Value} (h : w.ownsMap Tryz.prog 9 asV M n D) (e : w'.heap[M]? = w.heap[M]?) : w'.ownsMap Tryz.prog 9 asV M n D := by
  obtain ⟨es, clock, hb, r⟩ := h
  exact ⟨es, clock, e.trans hb, r⟩
theorem Seen.lt {W : World} {M : Nat} {S : List ByteArray} (h : Seen W M S) : M < W.heap.size := by
  obtain ⟨D, h, _⟩ := h; exact h.lt
theorem Seen.ext {w w' : World} {M : Nat} {S : List ByteArray} (h : Seen w M S) (e : Ext w w') : Seen w' M S := by
  have hl := h.lt
  obtain ⟨D, hM, r⟩ := h
  exact ⟨D, seenOwn hM (e.block M hl), r⟩
theorem seen_made (W : World) : Seen (W.alloc (.map #[] 0)) W.heap.size [] :=
  ⟨.map [], World.ownsMap_made _ _ _ _, fun s => by simp [has], fun s h => by cases h⟩
theorem makeMapB (W : World) : (Instr.makeMap 146 none).run Tryz.prog W = .ok (.map (some W.heap.size)) (W.alloc (.map #[] 0)) := by
  simp [Instr.makeMap, Result.andThen]
theorem zeroBool (w : World) : (zeroValue 4).run Tryz.prog w = .ok (.bool false) w := by kernel_rfl
set_option maxRecDepth 100000 in
theorem seen_look {W : World} {M : Nat} {S : List ByteArray} (h : Seen W M S) (s : ByteArray) (hs : s.size ≤ maxLen) :
    (Instr.lookup 146 (.map (some M)) (.string s) false).run Tryz.prog W = .ok (.bool (seenB S s)) W := by
  obtain ⟨D, hM, hH, hR⟩ := h
  obtain ⟨v, ps, hr, hv⟩ := hM.lookup seenK Tryz.underlying146 (zeroBool W) (show asV (.bool false) = some (.held (.bool false), []) from rfl) (keyOf_sk Tryz.underlying9 hs)
  rw [hr]
  unfold asV at hv; injection hv with hv; injection hv with h1 _
  congr 1
  by_cases e : s ∈ S
  · rw [hR s e] at h1
    rw [(seenB_iff S s).2 e]; injection h1
  · have hh : has D (sk s) = false := by
      cases k : has D (sk s)
      · rfl
      · exact absurd ((hH s).1 k) e
    rw [atKey_of_not_has hh] at h1
    rw [Bool.eq_false_iff.2 (fun k => e ((seenB_iff S s).1 k))]; injection h1
set_option maxRecDepth 100000 in
theorem seen_put {W : World} {M : Nat} {S : List ByteArray} (h : Seen W M S) (s : ByteArray) (hs : s.size ≤ maxLen) (hd : S.length < 1000000) :
    ∃ W', (Instr.mapUpdate 146 (.map (some M)) (.string s) (.bool true)).run Tryz.prog W = .ok () W' ∧ Seen W' M (S ++ [s]) ∧ Only M W W' := by
  obtain ⟨D, hM, hH, hR⟩ := h
  obtain ⟨W', hrun, hM', hg⟩ := hM.update seenK Tryz.underlying146 (by unfold maxLen; omega) (keyOf_sk Tryz.underlying9 hs) (show asV (.bool true) = some (.held (.bool true), []) from rfl)
  have hkey : WideAt.IsKeyLit (sk s) := trivial
  refine ⟨W', hrun, ⟨D.put (sk s) (.held (.bool true)), by simpa using hM', fun t => ?_, fun t ht z => ?_⟩, hg⟩
  · by_cases e : t = s
    · subst e
      exact ⟨fun _ => by simp, fun _ => has_put_same hM.isMap hkey _⟩
    · rw [has_put_other (fun k => e (sk_inj k)), hH t]
      simp [e]
  · by_cases e : t = s
    · subst e; exact atKey_put_same hM.isMap hkey _ _
    · rw [atKey_put_other (fun k => e (sk_inj k))]
      exact hR t (by simpa [e] using ht) z
end Go.Proofs.YtfocejhcdcnnhaaGreatDoor

namespace Go.Proofs.YtfocejhcdcnnhaaGreatDoor
open Go Go.RowKit

/-- "denomination is not sorted", "duplicate denomination", "coin amount is not positive", "decimal coin amount cannot be negative". -/
abbrev dNotSorted : ByteArray := ⟨#[100, 101, 110, 111, 109, 105, 110, 97, 116, 105, 111, 110, 32, 105, 115, 32, 110, 111, 116, 32, 115, 111, 114, 116, 101, 100]⟩
abbrev dDupl : ByteArray := ⟨#[100, 117, 112, 108, 105, 99, 97, 116, 101, 32, 100, 101, 110, 111, 109, 105, 110, 97, 116, 105, 111, 110]⟩
abbrev dNotPos : ByteArray := ⟨#[99, 111, 105, 110, 32, 97, 109, 111, 117, 110, 116, 32, 105, 115, 32, 110, 111, 116, 32, 112, 111, 115, 105, 116, 105, 118, 101]⟩
abbrev dBelow : ByteArray := ⟨#[100, 101, 99, 105, 109, 97, 108, 32, 99, 111, 105, 110, 32, 97, 109, 111, 117, 110, 116, 32, 99, 97, 110, 110, 111, 116, 32, 98, 101, 32, 110, 101, 103, 97, 116, 105, 118, 101]⟩
/-- What is wrong with one decimal coin. -/
def dOneErr (x : ByteArray × Int) : Option ByteArray := if denomB x.1 = false then some invDenom else if x.2 < 0 then some dBelow else none
/-- Is a name ahead of the last of these? -/
def behind (S : List ByteArray) (s : ByteArray) : Bool := match S.getLast? with | some q => keyLt s q | none => false
theorem behind_some {S : List ByteArray} {s q : ByteArray} (h : S.getLast? = some q) : behind S s = keyLt s q := by unfold behind; rw [h]
/-- What is wrong with a coin behind those of these names. -/
def dErrOne (S : List ByteArray) (x : ByteArray × Int) : Option ByteArray :=
  if seenB S x.1 = true then some dDupl else if denomB x.1 = false then some invDenom else if behind S x.1 = true then some dNotSorted else if x.2 ≤ 0 then some dNotPos else none
/-- The first thing that is wrong. -/
def dErr (S : List ByteArray) : List (ByteArray × Int) → Option ByteArray
  | [] => none
  | x :: r => match dErrOne S x with | some t => some t | none => dErr (S ++ [x.1]) r
theorem dErr_some {S : List ByteArray} {x : ByteArray × Int} {r : List (ByteArray × Int)} {t : ByteArray} (h : dErrOne S x = some t) : dErr S (x :: r) = some t := by unfold dErr; rw [h]
theorem dErr_none {S : List ByteArray} {x : ByteArray × Int} {r : List (ByteArray × Int)} (h : dErrOne S x = none) : dErr S (x :: r) = dErr (S ++ [x.1]) r := by conv => lhs; unfold dErr; rw [h]
theorem dsgn_pos (z : Int) : (sgn z == 1) = decide (0 < z) := by
  unfold sgn
  by_cases h1 : z < 0
  · rw [if_pos h1]; have : ¬ 0 < z := by omega
    simp [this]
  · rw [if_neg h1]
    by_cases h2 : 0 < z
    · rw [if_pos h2]; simp [h2]
    · rw [if_neg h2]; simp [h2]
theorem dsgn_neg (z : Int) : (sgn z == -1) = decide (z < 0) := by
  unfold sgn
  by_cases h1 : z < 0
  · rw [if_pos h1]; simp [h1]
  · rw [if_neg h1]
    by_cases h2 : 0 < z
    · rw [if_pos h2]; simp [h1]
    · rw [if_neg h2]; simp [h1]
theorem dcells_2 {W : World} {g : Nat} {T : TypeId} {u v : Value} (h : Blk W g T [u, v]) : W.cell? ⟨g, 0, none⟩ = some u ∧ W.cell? ⟨g, 1, none⟩ = some v ∧ g < W.heap.size :=
  ⟨(h.cell 0).trans rfl, (h.cell 1).trans rfl, h.lt⟩
/-- No error, or this one. -/
def RetErrD (o : Option ByteArray) (w : World) (e : Ending) (w' : World) : Prop :=
  match o with
  | none => e = .returned .nilIface ∧ Ext w w'
  | some t => RetErr t w e w'
theorem dValidBad {s : ByteArray} (hs : s.size ≤ 9223372036854775807) (h : denomB s = false) (w : World) : Calls Tryz.prog 106 #[.string s] w (RetErr invDenom w) :=
  (tValid s w hs).mono (by rw [h]; rintro e w' (⟨h, _⟩ | ⟨_, h⟩); cases h; exact h)
theorem dValidGood {s : ByteArray} (hs : s.size ≤ 9223372036854775807) (h : denomB s = true) (w : World) : Calls Tryz.prog 106 #[.string s] w (fun e w' => e = .returned .nilIface ∧ w' = w) :=
  (tValid s w hs).mono (by rw [h]; rintro e w' (⟨_, h⟩ | ⟨h, _⟩); exact h; cases h)

set_option maxRecDepth 100000 in
set_option maxHeartbeats 1000000 in
theorem tdValidate (s : ByteArray) (b : Nat) (z : Int) (w : World) (h : BigK w b z) (hsz : s.size ≤ 9223372036854775807) :
    Calls Tryz.prog 70 #[dcV s b] w (RetErrD (dOneErr (s, z)) w) := by
  have K0 := Lib.hid (blk_new0 w 106 [.string s, .pointer (some ⟨b, 0, none⟩)])
  have HP := Lib.hid (fun (W : World) (e : Ext w W) => tdIsNegative s b z W (h.ext e))
  rw [dsgn_neg] at HP
  clear h
  cases hd : denomB s
  · have HV := Lib.hid (dValidBad hsz hd)
    have F := Lib.hid (show dOneErr (s, z) = some invDenom by unfold dOneErr; rw [if_pos hd])
    clear hd
    go_enter Tryz.func70, Tryz.ntmps70
    go_wp2_with (first | (go_at_call 106; refine (HV.out _).mono ?_; rintro e w1 ⟨eb, rfl, hB, hE⟩; have HEB := Lib.hid hB; have HE1 := Lib.hid hE; clear hB hE))
    go_ret
    rw [F.out]; exact ⟨eb, rfl, HEB.out, (ext1 _ _).trans' HE1.out⟩
  · have HV := Lib.hid (dValidGood hsz hd)
    obtain ⟨r, hr⟩ : ∃ r, r = decide (z < 0) := ⟨_, rfl⟩
    rw [← hr] at HP
    have HR := Lib.hid hr; clear hr
    cases r
    · have F := Lib.hid (show dOneErr (s, z) = none by unfold dOneErr; rw [if_neg (by rw [hd]; simp)]; exact if_neg (of_decide_eq_false HR.out.symm))
      clear hd
      go_enter Tryz.func70, Tryz.ntmps70
      go_wp2_with (first | (go_at_call 106; refine (HV.out _).mono ?_; rintro e w1 ⟨rfl, hw⟩; subst hw) | (go_at_call 112; refine (HP.out _ (ext1 _ _)).mono ?_; rintro e w2 ⟨rfl, hE⟩; have HE2 := Lib.hid ((ext1 _ _).trans' hE); clear hE))
      go_ret
      rw [F.out]; exact ⟨rfl, HE2.out⟩
    · have F := Lib.hid (show dOneErr (s, z) = some dBelow by unfold dOneErr; rw [if_neg (by rw [hd]; simp)]; exact if_pos (of_decide_eq_true HR.out.symm))
      clear hd
      go_enter Tryz.func70, Tryz.ntmps70
      go_wp2_with (first | (go_at_call 106; refine (HV.out _).mono ?_; rintro e w1 ⟨rfl, hw⟩; subst hw) | (go_at_call 112; refine (HP.out _ (ext1 _ _)).mono ?_; rintro e w2 ⟨rfl, hE⟩; have HE2 := Lib.hid ((ext1 _ _).trans' hE); clear hE) | (go_at_call 96; refine (eNew dBelow _).mono ?_; rintro e w3 ⟨eb, rfl, hB, hE⟩; have HEB := Lib.hid hB; have HE3 := Lib.hid hE; clear hB hE))
      go_ret
      rw [F.out]; exact ⟨eb, rfl, HEB.out, HE2.out.trans' HE3.out⟩

set_option maxRecDepth 100000 in
set_option maxHeartbeats 1000000 in
theorem tdValidateOne (A : Option Addr) (c : Nat) (x : Co) (w : World) (h : DCoinsAt w A [x]) (hsz : x.s.size ≤ 9223372036854775807) :
    Calls Tryz.prog 66 #[.slice A 1 c] w (RetErrD (dErrOne [] x.val) w) := by
  obtain ⟨s, b, z⟩ := x
  obtain ⟨g, o, hA, hc⟩ := h.1 (by simp)
  subst hA
  have hck := hc 0 (by simp)
  have cs0 : w.cell? ⟨g, o, none⟩ = some (.string s) := by have := hck.1; simpa [Co.pair] using this
  have cs1 : w.cell? ⟨g, o + 1, none⟩ = some (.pointer (some ⟨b, 0, none⟩)) := by have := hck.2; simpa [Co.pair] using this
  have HB := Lib.hid (show BigK w b z from h.2 _ (List.mem_singleton.2 rfl))
  have HP := Lib.hid (fun (W : World) (e : Ext w W) => tdIsPositive s b z W (HB.out.ext e))
  rw [dsgn_pos] at HP
  show Calls _ _ _ _ (RetErrD (dErrOne [] (s, z)) w)
  have e0 : dErrOne [] (s, z) = if denomB s = false then some invDenom else if z ≤ 0 then some dNotPos else none := by
    unfold dErrOne; rw [if_neg (by simp [seenB])]; congr 1
  clear h hc hck
  cases hd : denomB s
  · have HV := Lib.hid (dValidBad hsz hd)
    have F := Lib.hid (show dErrOne [] (s, z) = some invDenom by rw [e0, if_pos hd])
    clear hd e0
    go_enter Tryz.func66, Tryz.ntmps66
    go_wp2_with (first | (go_at_call 106; refine (HV.out _).mono ?_; rintro e w1 ⟨eb, rfl, hB, hE⟩; have HEB := Lib.hid hB; have HE1 := Lib.hid hE; clear hB hE))
    go_ret
    rw [F.out]; exact ⟨eb, rfl, HEB.out, HE1.out⟩
  · have HV := Lib.hid (dValidGood hsz hd)
    obtain ⟨r, hr⟩ : ∃ r, r = decide (0 < z) := ⟨_, rfl⟩
    rw [← hr] at HP
    have HR := Lib.hid hr; clear hr
    cases r
    · have F := Lib.hid (show dErrOne [] (s, z) = some dNotPos by rw [e0, if_neg (by rw [hd]; simp)]; exact if_pos (by have := of_decide_eq_false HR.out.symm; omega))
      clear hd e0
      go_enter Tryz.func66, Tryz.ntmps66
      go_wp2_with (first | (go_at_call 106; refine (HV.out _).mono ?_; rintro e w1 ⟨rfl, hw⟩; subst hw) | (go_at_call 107; refine (HP.out _ (Ext.refl _)).mono ?_; rintro e w2 ⟨rfl, hE⟩; have HE2 := Lib.hid hE; clear hE) | (go_at_call 96; refine (eNew dNotPos _).mono ?_; rintro e w3 ⟨eb, rfl, hB, hE⟩; have HEB := Lib.hid hB; have HE3 := Lib.hid hE; clear hB hE))
      go_ret
      rw [F.out]; exact ⟨eb, rfl, HEB.out, HE2.out.trans' HE3.out⟩
    · have F := Lib.hid (show dErrOne [] (s, z) = none by rw [e0, if_neg (by rw [hd]; simp)]; exact if_neg (by have := of_decide_eq_true HR.out.symm; omega))
      clear hd e0
      go_enter Tryz.func66, Tryz.ntmps66
      go_wp2_with (first | (go_at_call 106; refine (HV.out _).mono ?_; rintro e w1 ⟨rfl, hw⟩; subst hw) | (go_at_call 107; refine (HP.out _ (Ext.refl _)).mono ?_; rintro e w2 ⟨rfl, hE⟩; have HE2 := Lib.hid hE; clear hE))
      go_ret
      rw [F.out]; exact ⟨rfl, HE2.out⟩

set_option maxRecDepth 100000 in
theorem tdValidateNone (A : Option Addr) (c : Nat) (w : World) : Calls Tryz.prog 66 #[.slice A 0 c] w fun e w' => e = .returned .nilIface ∧ w' = w := by
  go_enter Tryz.func66, Tryz.ntmps66
  go_wp2
  go_ret
  exact ⟨rfl, rfl⟩
end Go.Proofs.YtfocejhcdcnnhaaGreatDoor

namespace Go.Proofs.YtfocejhcdcnnhaaGreatDoor
open Go Go.RowKit

theorem down_cap' {w : World} {base n k : Nat} {E : TypeId} {v : Value} {xs : List Value} (h : w.ownsRow base E k v n xs) : ∃ A c, v = .slice A n c ∧ n ≤ c := by
  rcases h.2 with ⟨rfl, rfl⟩ | ⟨g, cap, _, rfl, _, _, hn, _⟩
  · exact ⟨_, _, rfl, Nat.le_refl _⟩
  · exact ⟨_, _, rfl, hn⟩
theorem own_max {w : World} {base n m k c : Nat} {E : TypeId} {A : Option Addr} {xs : List Value} (h : w.ownsRow base E k (.slice A n c) m xs) : c ≤ 9223372036854775807 := by
  rcases h.2 with ⟨hv, _⟩ | ⟨g, cap, _, hv, _, _, hn, hm, _⟩
  · injection hv with _ _ h3; subst h3; omega
  · injection hv with _ _ h3; subst h3; unfold maxLen at hm; omega
theorem dErrOne_dup {S : List ByteArray} {s : ByteArray} {z : Int} (h : seenB S s = true) : dErrOne S (s, z) = some dDupl := by unfold dErrOne; rw [if_pos h]
theorem dErrOne_inv {S : List ByteArray} {s : ByteArray} {z : Int} (h : seenB S s = false) (h1 : denomB s = false) : dErrOne S (s, z) = some invDenom := by unfold dErrOne; rw [if_neg (by rw [h]; simp), if_pos h1]
theorem dErrOne_ord {S : List ByteArray} {s q : ByteArray} {z : Int} (h : seenB S s = false) (h1 : denomB s = true) (hq : S.getLast? = some q) (h2 : keyLt s q = true) : dErrOne S (s, z) = some dNotSorted := by
  unfold dErrOne; rw [if_neg (by rw [h]; simp), if_neg (by rw [h1]; simp), if_pos (by rw [behind_some hq]; exact h2)]
theorem dErrOne_pos {S : List ByteArray} {s q : ByteArray} {z : Int} (h : seenB S s = false) (h1 : denomB s = true) (hq : S.getLast? = some q) (h2 : keyLt s q = false) : dErrOne S (s, z) = if z ≤ 0 then some dNotPos else none := by
  unfold dErrOne; rw [if_neg (by rw [h]; simp), if_neg (by rw [h1]; simp), if_neg (by rw [behind_some hq, h2]; simp)]

set_option maxRecDepth 100000 in
set_option maxHeartbeats 4000000 in
theorem tdValidateMany (A : Option Addr) (n c : Nat) (l : List Co) (w : World) (hl : l.length = n) (h2 : 2 ≤ n) (hn : n ≤ 100000) (hc : n ≤ c) (hcm : c ≤ 9223372036854775807) (h : DCoinsAt w A l) (hsz : ∀ x ∈ l, x.s.size ≤ maxLen) :
    Calls Tryz.prog 66 #[.slice A n c] w (RetErrD (dErr [] (l.map Co.val)) w) := by
  have HL := Lib.hid hl; have HP0 := Lib.hid h; have HSZ := Lib.hid hsz
  have h0l : 0 < l.length := by omega
  obtain ⟨g, o, hA, hcc⟩ := h.1 (by intro e; have := congrArg List.length e; simp at this; rw [this] at h0l; simp at h0l)
  subst hA
  obtain ⟨s0, hs0⟩ : ∃ s, s = l[0].s := ⟨_, rfl⟩
  obtain ⟨a0, ha0⟩ : ∃ b, b = l[0].b := ⟨_, rfl⟩
  have HCC := Lib.hid hcc
  have hck := hcc 0 (by simpa using h0l)
  have cs0 : w.cell? ⟨g, o, none⟩ = some (.string s0) := by have := hck.1; rw [hs0]; simpa [Co.pair] using this
  have cs1 : w.cell? ⟨g, o + 1, none⟩ = some (.pointer (some ⟨a0, 0, none⟩)) := by have := hck.2; rw [ha0]; simpa [Co.pair] using this
  have gl := cell_lt cs0
  have HX0 := Lib.hid (show DCoinsAt (w.alloc (dcBox s0 a0)) (some ⟨w.heap.size, 0, none⟩) [l[0]] from ⟨fun _ => ⟨w.heap.size, 0, rfl, fun j hj => by
    obtain rfl : j = 0 := by simp at hj; omega
    exact ⟨by rw [cell_new]; simp [Co.pair, hs0], by rw [cell_new]; simp [Co.pair, ha0]⟩⟩, fun y hy => by
    obtain rfl := List.mem_singleton.1 hy
    exact (h.2 _ (List.getElem_mem h0l)).ext (Ext.alloc' _ _)⟩)
  have hz0 := hsz _ (List.getElem_mem h0l)
  have HZ0 := Lib.hid (show s0.size ≤ maxLen by rw [hs0]; exact hz0)
  have H1 := Lib.hid (tdValidateOne (some ⟨w.heap.size, 0, none⟩) 1 l[0] _ HX0.out (by unfold maxLen at hz0; omega))
  obtain ⟨x0, hx0⟩ : ∃ x, x = Co.val l[0] := ⟨_, rfl⟩
  have hx1 : x0.1 = s0 := by rw [hx0, hs0]; rfl
  have hlc : l.map Co.val = x0 :: (l.drop 1).map Co.val := by
    conv => lhs; rw [← List.drop_zero (l := l), List.drop_eq_getElem_cons h0l]
    rw [List.map_cons, hx0]
  rw [hlc]
  rw [← hx0] at H1
  have HS0 := Lib.hid (show s0 = Co.s l[0] from hs0)
  obtain ⟨o1, ho1⟩ : ∃ o1, o1 = dErrOne [] x0 := ⟨_, rfl⟩
  rw [← ho1] at H1
  obtain ⟨G, hG⟩ : ∃ G, G = dErr [] (x0 :: (l.drop 1).map Co.val) := ⟨_, rfl⟩
  have F0 := Lib.hid (show (∀ t, o1 = some t → G = some t) ∧ (o1 = none → dErr ((l.take 1).map Co.s) ((l.drop 1).map Co.val) = G) by
    refine ⟨fun t e => by rw [hG]; exact dErr_some (ho1.symm.trans e), fun e => ?_⟩
    rw [hG, dErr_none (ho1.symm.trans e), List.nil_append, hx1, List.take_succ_eq_append_getElem h0l, hs0]; rfl)
  rw [← hG]
  have hd2 : ((n : Int) == 0) = false := by simp; omega
  have hd3 : ((n : Int) == 1) = false := by simp; omega
  have hc1 : ¬ c = 1 := by omega
  have b0 : (1 : Int) ≤ (n : Int) := by omega
  have b1 : (n : Int) ≤ (c : Int) := by omega
  have b2 : (0 : Int) < (n : Int) := by omega
  have b3 : (1 : Int) ≤ (c : Int) := by omega
  clear h hsz hcc hck hl hs0 ha0 ho1 hx0 hx1 hlc hG hz0
  cases o1 with
  | some t =>
    rw [F0.out.1 t rfl]
    go_enter Tryz.func66, Tryz.ntmps66
    go_wp2_with (fail)
    go_at_call 66
    refine H1.out.mono ?_
    rintro e w1 ⟨eb, rfl, hB, hE⟩
    have HEB := Lib.hid hB; have HE := Lib.hid hE; clear hB hE
    go_wp2
    go_ret
    exact ⟨eb, rfl, HEB.out, (Ext.alloc' _ _).trans' HE.out⟩
  | none =>
    have F1 := Lib.hid (F0.out.2 rfl)
    go_enter Tryz.func66, Tryz.ntmps66
    go_wp2_with (fail)
    go_at_call 66
    refine H1.out.mono ?_
    rintro e w1 ⟨rfl, hE⟩
    have HE1 := Lib.hid ((Ext.alloc' _ _).trans' hE); clear hE
    have cs0' := HE1.out.cell' cs0
    have gl' := cell_lt cs0'
    clear cs0 cs1 gl
    have hmm := makeMapB
    go_upto_region 7 with fail
    clear hmm
    obtain ⟨W2, hrun, hS, hO⟩ := seen_put (seen_made w1) s0 HZ0.out (by simp)
    have HS2 := Lib.hid hS
    have HE2 := Lib.hid (show Ext w W2 from Only.ext (HE1.out.trans' (Ext.alloc' _ _)) hO (HE1.out.size))
    have HM := Lib.hid HE1.out.size
    clear hS hO
    generalize w1.heap.size = M at *
    go_wp2
    clear hrun
    go_loopw [5, 30] (fun v i wr => ∃ k : Nat, k + 1 ≤ n ∧ i = .int .i64 k ∧ (∃ hk : k < l.length, v = .string l[k].s) ∧ Seen wr M ((l.take (k + 1)).map Co.s) ∧ dErr ((l.take (k + 1)).map Co.s) ((l.drop (k + 1)).map Co.val) = G ∧ Ext w wr) (fun _ i _ => n - (intOf i).toNat)
    case atStart => exact ⟨0, by omega, rfl, ⟨h0l, by rw [HS0.out]⟩, by
      have e : (l.take (0 + 1)).map Co.s = [] ++ [s0] := by rw [List.take_succ_eq_append_getElem h0l, HS0.out]; rfl
      rw [e]; exact HS2.out, F1.out, HE2.out⟩
    case round =>
      obtain ⟨k, hk, rfl, ⟨hkl, rfl⟩, hsn, hq, hE⟩ := hrel
      have HQ := Lib.hid hq; have HE := Lib.hid hE; have HSN := Lib.hid hsn
      clear hq hE hsn
      obtain ⟨low, hlow⟩ : ∃ low, low = l[k].s := ⟨_, rfl⟩
      obtain ⟨S, hS⟩ : ∃ S, S = (l.take (k + 1)).map Co.s := ⟨_, rfl⟩
      rw [← hS] at HQ HSN
      have HLAST := Lib.hid (show S.getLast? = some low by rw [hS, List.take_succ_eq_append_getElem hkl, List.map_append, hlow]; simp)
      have HSL := Lib.hid (show S.length < 1000000 by rw [hS]; simp; omega)
      rw [← hlow]
      have HSS := Lib.hid hS
      clear hlow hS
      by_cases hlt : k + 1 < n
      · have hkl1 : k + 1 < l.length := by rw [HL.out]; exact hlt
        obtain ⟨s, hss⟩ : ∃ s, s = l[k + 1].s := ⟨_, rfl⟩
        obtain ⟨b, hbb⟩ : ∃ b, b = l[k + 1].b := ⟨_, rfl⟩
        obtain ⟨z, hzz⟩ : ∃ z, z = l[k + 1].z := ⟨_, rfl⟩
        have hck := HCC.out (k + 1) (by simpa using hkl1)
        have hoff : o + (k + 1) * 2 = o + 2 + k * 2 := by omega
        rw [hoff] at hck
        have cs0 : wr.cell? ⟨g, o + 2 + k * 2, none⟩ = some (.string s) := HE.out.cell' (by rw [hck.1, hss]; simp [Co.pair])
        have cs1 : wr.cell? ⟨g, o + 2 + k * 2 + 1, none⟩ = some (.pointer (some ⟨b, 0, none⟩)) := HE.out.cell' (by rw [hck.2, hbb]; simp [Co.pair])
        have gl := cell_lt cs0
        have HB := Lib.hid (show BigK wr b z by rw [hbb, hzz]; exact (HP0.out.2 _ (List.getElem_mem hkl1)).ext HE.out)
        have HP := Lib.hid (fun (W : World) (e : Ext wr W) => tdIsPositive s b z W (HB.out.ext e))
        rw [dsgn_pos] at HP
        have hz := HSZ.out _ (List.getElem_mem hkl1)
        rw [← hss] at hz
        have HZS := Lib.hid hz
        have hz' : s.size ≤ 9223372036854775807 := by unfold maxLen at hz; omega
        have FX := Lib.hid (show (l.drop (k + 1)).map Co.val = (s, z) :: (l.drop (k + 2)).map Co.val by
          rw [List.drop_eq_getElem_cons hkl1, List.map_cons, hss, hzz]; rfl)
        have FS := Lib.hid (show S ++ [s] = (l.take (k + 2)).map Co.s by rw [HSS.out, List.take_succ_eq_append_getElem hkl1, List.map_append, hss]; rfl)
        have m1 : (k : Int) < (n : Int) - 1 := by omega
        have m2 : k < n - 1 := by omega
        clear hbb hzz hck hoff hz
        have HSK := Lib.hid hss; clear hss
        obtain ⟨r, hr⟩ : ∃ r, r = seenB S s := ⟨_, rfl⟩
        obtain ⟨W1, hW1⟩ : ∃ W1, W1 = wr.alloc (dcBox s b) := ⟨_, rfl⟩
        have K8 := Lib.hid (show Blk W1 wr.heap.size 106 [.string s, .pointer (some ⟨b, 0, none⟩)] by rw [hW1]; exact blk_new0 wr 106 [.string s, .pointer (some ⟨b, 0, none⟩)])
        have EW1 := Lib.hid (show Ext wr W1 by rw [hW1]; exact ext1 _ _)
        have hlk := seen_look (HSN.out.ext EW1.out) s HZS.out
        rw [← hr] at hlk
        have HR := Lib.hid hr.symm
        have HWW := Lib.hid hW1
        clear hr hW1
        obtain ⟨c0, c1, l8⟩ := dcells_2 K8.out
        go_upto_region 11 with fail
        rw [← HWW.out]
        generalize wr.heap.size = q at *
        cases r
        · cases hd : denomB s
          · have HV := Lib.hid (dValidBad hz' hd)
            have F := Lib.hid (show G = some invDenom by rw [← HQ.out, FX.out]; exact dErr_some (dErrOne_inv HR.out hd))
            clear hd hz'
            go_wp2_with (first | (go_at_call 106; refine (HV.out _).mono ?_; rintro e w2 ⟨eb, rfl, hB, hE⟩; have HEB := Lib.hid hB; have HE2 := Lib.hid hE; clear hB hE))
            go_ret
            rw [F.out]; exact ⟨eb, rfl, HEB.out, (HE.out.trans' EW1.out).trans' HE2.out⟩
          · have HV := Lib.hid (dValidGood hz' hd)
            have HD := Lib.hid hd; clear hd hz'
            have hne : ¬ s = low := by
              rintro rfl
              have := (Bool.eq_false_iff.1 HR.out)
              exact this ((seenB_iff S s).2 (List.mem_of_getLast? HLAST.out))
            have g2 : (s.toList == low.toList) = false := by rw [key_beq]; simpa using hne
            clear hne
            cases h1 : keyLt s low
            · have g1 : Op.bytesLess s.toList low.toList = false := h1
              obtain ⟨p, hp⟩ : ∃ p, p = decide (0 < z) := ⟨_, rfl⟩
              rw [← hp] at HP
              have HPP := Lib.hid hp; clear hp
              have FE := Lib.hid (dErrOne_pos (z := z) HR.out HD.out HLAST.out h1)
              clear h1
              cases p
              · have F := Lib.hid (show G = some dNotPos by rw [← HQ.out, FX.out]; exact dErr_some (by rw [FE.out, if_pos (by have := of_decide_eq_false HPP.out.symm; omega)]))
                go_wp2_with (first | (go_at_call 106; refine (HV.out _).mono ?_; rintro e w2 ⟨rfl, hw⟩; subst hw) | (go_at_call 107; refine (HP.out _ EW1.out).mono ?_; rintro e w3 ⟨rfl, hE⟩; have HE3 := Lib.hid hE; clear hE) | (go_at_call 96; refine (eNew dNotPos _).mono ?_; rintro e w4 ⟨eb, rfl, hB, hE⟩; have HEB := Lib.hid hB; have HE4 := Lib.hid hE; clear hB hE))
                go_ret
                rw [F.out]; exact ⟨eb, rfl, HEB.out, ((HE.out.trans' EW1.out).trans' HE3.out).trans' HE4.out⟩
              · have F := Lib.hid (show dErr (S ++ [s]) ((l.drop (k + 2)).map Co.val) = G by rw [← HQ.out, FX.out]; exact (dErr_none (by rw [FE.out, if_neg (by have := of_decide_eq_true HPP.out.symm; omega)])).symm)
                go_wp2_with (first | (go_at_call 106; refine (HV.out _).mono ?_; rintro e w2 ⟨rfl, hw⟩; subst hw) | (go_at_call 107; refine (HP.out _ EW1.out).mono ?_; rintro e w3 ⟨rfl, hE⟩; have HE3 := Lib.hid hE; obtain ⟨d0, d1, l9⟩ := dcells_2 (K8.out.ext hE); have hpp := seen_put (HSN.out.ext (EW1.out.trans' hE)) s HZS.out HSL.out; clear hE; obtain ⟨W4, hput, hsn, ho⟩ := hpp; have HSN4 := Lib.hid hsn; have HO4 := Lib.hid ho; clear hsn ho))
                go_roundw
                case rel => exact ⟨k + 1, by omega, by go_num, ⟨hkl1, by rw [HSK.out]⟩, by rw [← FS.out]; exact HSN4.out, by rw [← FS.out]; exact F.out, Only.ext ((HE.out.trans' EW1.out).trans' HE3.out) HO4.out HM.out⟩
                case measure => simp [intOf]; omega
            · have g1 : Op.bytesLess s.toList low.toList = true := h1
              have F := Lib.hid (show G = some dNotSorted by rw [← HQ.out, FX.out]; exact dErr_some (dErrOne_ord HR.out HD.out HLAST.out h1))
              clear h1
              go_wp2_with (first | (go_at_call 106; refine (HV.out _).mono ?_; rintro e w2 ⟨rfl, hw⟩; subst hw) | (go_at_call 96; refine (eNew dNotSorted _).mono ?_; rintro e w4 ⟨eb, rfl, hB, hE⟩; have HEB := Lib.hid hB; have HE4 := Lib.hid hE; clear hB hE))
              go_ret
              rw [F.out]; exact ⟨eb, rfl, HEB.out, (HE.out.trans' EW1.out).trans' HE4.out⟩
        · have F := Lib.hid (show G = some dDupl by rw [← HQ.out, FX.out]; exact dErr_some (dErrOne_dup HR.out))
          go_wp2_with (first | (go_at_call 96; refine (eNew dDupl _).mono ?_; rintro e w4 ⟨eb, rfl, hB, hE⟩; have HEB := Lib.hid hB; have HE4 := Lib.hid hE; clear hB hE))
          go_ret
          rw [F.out]; exact ⟨eb, rfl, HEB.out, (HE.out.trans' EW1.out).trans' HE4.out⟩
      · have m2 : ¬ k < n - 1 := by omega
        have m1 : ¬ (k : Int) < (n : Int) - 1 := by omega
        have FN := Lib.hid (show G = none by rw [← HQ.out, List.drop_of_length_le (by rw [HL.out]; omega)]; rfl)
        go_wp2
        go_ret
        rw [FN.out]; exact ⟨rfl, HE.out⟩

theorem tdValidateAll (A : Option Addr) (n c : Nat) (l : List Co) (w : World) (hl : l.length = n) (hn : n ≤ 100000) (hc : n ≤ c) (hcm : c ≤ 9223372036854775807) (h : DCoinsAt w A l) (hsz : ∀ x ∈ l, x.s.size ≤ maxLen) :
    Calls Tryz.prog 66 #[.slice A n c] w (RetErrD (dErr [] (l.map Co.val)) w) := by
  rcases (by omega : n = 0 ∨ n = 1 ∨ 2 ≤ n) with rfl | rfl | h2
  · obtain rfl : l = [] := List.eq_nil_of_length_eq_zero hl
    exact (tdValidateNone A c w).mono fun e w' ⟨h1, h2⟩ => by subst h2; exact ⟨h1, Ext.refl _⟩
  · obtain ⟨x, rfl⟩ := List.length_eq_one_iff.1 hl
    have hx := hsz x (by simp)
    refine (tdValidateOne A c x w h (by unfold maxLen at hx; omega)).mono fun e w' hr => ?_
    have : dErr [] ([x].map Co.val) = dErrOne [] x.val := by
      show dErr [] [x.val] = _
      cases ho : dErrOne [] x.val with
      | some t => exact dErr_some ho
      | none => rw [dErr_none ho]; rfl
    rw [this]; exact hr
  · exact tdValidateMany A n c l w hl h2 hn hc hcm h hsz

/-- The words of an error. -/
def errText (o : Option ByteArray) : ByteArray := o.getD ⟨#[]⟩
set_option maxRecDepth 100000 in
theorem iDecErr (A : Option Addr) (n c : Nat) (l : List DP) (w : World) (hl : l.length = n) (hn : n ≤ 100000) (h : DPlainAt w A l) (hz : ∀ x ∈ l, DecB x.2.1 x.2.2) (hsz : ∀ x ∈ l, x.1.size ≤ maxLen) (hT : Thr w) :
    Calls Tryz.prog 32 #[.slice A n c] w (RetE (.string (errText (dErr [] (l.map dval)))) w) := by
  have HD := Lib.hid (iDecCoins A n c l w hl (by omega) h hz hT)
  have HLL := Lib.hid hl; have HSZ := Lib.hid hsz
  clear h hz hT hl hsz
  obtain ⟨o, ho⟩ : ∃ o, o = dErr [] (l.map dval) := ⟨_, rfl⟩
  have HO := Lib.hid ho
  rw [← ho]
  clear ho
  go_enter Tryz.func32, Tryz.ntmps32
  go_wp2_with (fail)
  go_at_call 42
  refine HD.out.mono ?_
  rintro e w1 ⟨v, cs, rfl, hcv, hown, hE⟩
  have hcl : cs.length = n := by have := congrArg List.length hcv; simpa [HLL.out] using this
  obtain ⟨A1, c1, rfl, hcap⟩ := down_cap' hown.1
  rw [hcl] at hcap hown ⊢
  have hcm := own_max hown.1
  have HV := Lib.hid (tdValidateAll A1 n c1 cs w1 hcl hn hcap hcm ⟨by have h1 := hown.1; rw [hcl] at h1; exact recAt_of_owns (by simpa using hcl) h1, hown.2⟩ (fun x hx => by
    have h1 : x.val ∈ l.map dval := by rw [← hcv]; exact List.mem_map_of_mem hx
    obtain ⟨y, hy, e⟩ := List.mem_map.1 h1
    have h2 := HSZ.out y hy
    have h3 : x.s = y.1 := (congrArg Prod.fst e).symm
    rw [h3]; exact h2))
  rw [hcv, ← HO.out] at HV
  have HE := Lib.hid hE; clear hE hown hcv hcl hcap hcm
  go_wp2_with (fail)
  go_at_call 66
  refine HV.out.mono ?_
  cases o with
  | none =>
    rintro e w2 ⟨rfl, hE⟩
    have HE2 := Lib.hid hE; clear hE
    go_wp2_with (go_at_call 65; refine (iWordNil _).mono ?_; rintro e w3 ⟨rfl, rfl⟩)
    go_ret
    exact ⟨rfl, HE.out.trans' HE2.out⟩
  | some t =>
    rintro e w2 ⟨eb, rfl, hB, hE⟩
    have HB := Lib.hid hB; have HE2 := Lib.hid hE; clear hB hE
    go_wp2_with (go_at_call 65; refine (iWordErr t eb _ HB.out).mono ?_; rintro e w3 ⟨rfl, rfl⟩)
    go_ret
    exact ⟨rfl, HE.out.trans' HE2.out⟩
end Go.Proofs.YtfocejhcdcnnhaaGreatDoor

namespace Go.Proofs.YtfocejhcdcnnhaaGreatDoor
open Go Go.RowKit

theorem rows_cap {w : World} {base n k : Nat} {E : TypeId} {v : Value} {xs : List Value} (h : w.ownsRow base E k v n xs) : ∃ A c, v = .slice A n c ∧ n ≤ c := by
  rcases h.2 with ⟨rfl, rfl⟩ | ⟨g, cap, _, rfl, _, _, hn, _⟩
  · exact ⟨_, _, rfl, Nat.le_refl _⟩
  · exact ⟨_, _, rfl, hn⟩
theorem rows_append_none {P : Program} (w : World) (t ty e : TypeId) (i : TypeInfo) (h1 : P.underlying t = some (.slice e)) (h2 : P.info? e = some i) (a x : Option Addr) (n cap c : Nat) (h : n ≤ cap) :
    (Builtin.append_ #[t, t] ty #[.slice a n cap, .slice x 0 c]).run P w = .ok (.slice a n cap) w := by
  cases a <;> cases x <;> simp [Builtin.append_, run_underlying h1, Go.sizeOf, typeInfo, h2, Result.andThen, Builtin.lenOf, Builtin.firstCells, h, storeCells, loadCells, loadCellsFrom]
theorem wpList_append_rows {P : Program} {w : World} {ops : Array Oper} {rest : List Oper} {o : Oper} {a : Act} {Q : Exit → Act → World → Prop} (hw : Region.wanted o (yielded ops a.tmps) = true) (s x : Operand) (t E : TypeId)
    (ho : o.op = .call { callee := .builtin .append, args := #[s, x], argTypes := #[t, t] }) (base : Nat) (i : TypeInfo) (z : Value) (size bytes : Nat) (ht : P.underlying t = some (.slice E)) (hi : P.info? E = some i) (hz : i.zero = some z)
    (hsize : i.size = size) (hby : i.bytes = bytes) (hzs : z.cells.size = size) (h0s : 0 < size) (v : Value) (n : Nat) (xs : List Value) (hs : a.eval s = v) (hown : w.ownsRow base E size v n xs)
    (B : Option Addr) (m c : Nat) (news : List Value) (hx : a.eval x = .slice B m c) (hl : news.length = m * size) (hnews : m ≠ 0 → ∃ g of, B = some ⟨g, of, none⟩ ∧ ∀ j u, news[j]? = some u → w.cell? ⟨g, of + j, none⟩ = some u) (h1 : ∀ u ∈ news, u.oneCell' = true)
    (hle : n + m ≤ maxLen) (hb : (n + m) * bytes ≤ 140737488355328) (hbase : base ≤ w.heap.size)
    (h : ∀ v' w', w'.ownsRow base E size v' (n + m) (xs ++ news) → (∀ w0, Ext w0 w → w0.heap.size ≤ base → Ext w0 w') → wpList P ops Q rest (a.put o.dst v') w') :
    wpList P ops Q (o :: rest) a w := by
  by_cases h0 : m = 0
  · subst h0
    have : news = [] := List.eq_nil_of_length_eq_zero (by simpa using hl)
    subst this
    obtain ⟨A, cap, rfl, hcap⟩ := rows_cap hown
    refine wpList_step fun K hK => ?_
    rw [if_pos hw]
    have hr := rows_append_none (P := P) w t o.type E i ht hi A B n cap c hcap
    unfold Oper.wp execOp
    simp only [ho, resolve, invoke, builtin, Sem.run_bind, Sem.run_pure, Result.andThen_ok, List.map_toArray, List.map_cons, List.map_nil, hs, hx, hr]
    exact hK _ _ (h _ w (by simpa using hown) fun _ e0 _ => e0)
  · obtain ⟨g, of, rfl, hc⟩ := hnews h0
    have hnews : ∀ j u, news[j]? = some u → w.cell? ((⟨g, of, none⟩ : Addr).add j) = some u := fun j u hu => by
      have hadd : (⟨g, of, none⟩ : Addr).add j = ⟨g, of + j, none⟩ := by unfold Addr.add; split <;> simp_all
      rw [hadd]; exact hc j u hu
    refine wpList_step fun K hK => ?_
    rw [if_pos hw]
    obtain ⟨v', w', hr, h2, h3, _, _⟩ := run_append_own_at (P := P) w base t o.type E i z size bytes ht hi hz hsize hby hzs h0s v n xs hown ⟨g, of, none⟩ m c news hl hnews h1 hle hb hbase
    unfold Oper.wp execOp
    simp only [ho, resolve, invoke, builtin, Sem.run_bind, Sem.run_pure, Result.andThen_ok, List.map_toArray, List.map_cons, List.map_nil, hs, hx, hr]
    exact hK _ _ (h v' w' h2 (fun _ e0 hb => Below.grown e0 h3 e0.size (fun g hv => Nat.le_trans hb (hown.lt g hv).1)))
theorem flat3_all {Q : Nat → Value → Prop} (ps : List (Value × Value × Value)) (h : ∀ j (hj : j < ps.length), Q (j * 3) ps[j].1 ∧ Q (j * 3 + 1) ps[j].2.1 ∧ Q (j * 3 + 2) ps[j].2.2) : ∀ i u, (flat3 ps)[i]? = some u → Q i u := by
  intro i u hu
  have hi : i < (flat3 ps).length := (List.getElem?_eq_some_iff.1 hu).1
  rw [flat3_length] at hi
  have hj : i / 3 < ps.length := by omega
  obtain ⟨h1, h2, h3⟩ := flat3_get ps (i / 3) hj
  obtain ⟨q1, q2, q3⟩ := h (i / 3) hj
  rcases (by omega : i / 3 * 3 = i ∨ i / 3 * 3 + 1 = i ∨ i / 3 * 3 + 2 = i) with e | e | e
  · rw [e] at h1 q1
    rw [h1] at hu; injection hu with hu; rw [← hu]; exact q1
  · rw [e] at h2 q2
    rw [h2] at hu; injection hu with hu; rw [← hu]; exact q2
  · rw [e] at h3 q3
    rw [h3] at hu; injection hu with hu; rw [← hu]; exact q3
theorem dplain_one' (l : List DP) : ∀ u ∈ flat3 (l.map dplain), u.oneCell' = true := by
  intro u hu
  obtain ⟨p, hp, hu⟩ := List.mem_flatMap.1 hu
  obtain ⟨x, _, rfl⟩ := List.mem_map.1 hp
  simp [dplain] at hu
  rcases hu with rfl | rfl | rfl <;> rfl
/-- Decimal coins of plain data handed back. -/
def RetDPlain (l : List DP) (w : World) (e : Ending) (w' : World) : Prop := ∃ v, e = .returned v ∧ DPlainOwn w' w.heap.size v l ∧ Ext w w'
theorem dplain_slice {w : World} {base n : Nat} {v : Value} {l : List DP} (h : DPlainOwn w base v l) (hl : l.length = n) : ∃ A c, v = .slice A n c ∧ n ≤ c ∧ DPlainAt w A l := by
  subst hl
  obtain ⟨A, c, rfl, hc⟩ := rows_cap h
  exact ⟨A, c, rfl, hc, recAt3_of_owns (ps := l.map dplain) (by simp) h⟩

set_option maxRecDepth 100000 in
theorem lDeciOwn (A : Option Addr) (n c : Nat) (l : List DP) (w : World) (hl : l.length = n) (hn : n ≤ 100000) (h : DPlainAt w A l) :
    Calls Tryz.prog 15 #[.slice A n c] w (RetDPlain l w) := by
  obtain ⟨i0, hi, hz0, hz1, hz2⟩ := info_parts infoDPlan
  have HL := Lib.hid hl; have HP := Lib.hid h
  clear hl h
  go_enter Tryz.func15, Tryz.ntmps15
  go_wp2_with (first | (at_builtin; refine wpList_append_rows (by rfl) _ _ 22 67 rfl w.heap.size i0 _ 3 32 Tryz.underlying22 hi hz0 hz1 hz2 rfl (by decide) _ 0 [] rfl (World.ownsRow_nil _ _ _ _) A n c (flat3 (l.map dplain)) rfl (by rw [flat3_length, List.length_map, HL.out]) (fun h0 => ?_) (dplain_one' l) (by unfold maxLen; omega) (by omega) (Nat.le_refl _) ?_))
  · obtain ⟨g, o, hA, hc⟩ := HP.out (by intro e; have := congrArg List.length e; simp [HL.out] at this; exact h0 this)
    exact ⟨g, o, hA, flat3_all (Q := fun i u => w.cell? ⟨g, o + i, none⟩ = some u) _ hc⟩
  · intro v' w' hown hext
    have HO := Lib.hid hown; have HE := Lib.hid (hext w (Ext.refl _) (Nat.le_refl _))
    clear hown hext
    go_wp2
    go_ret
    exact ⟨_, rfl, by have := HO.out; rw [← HL.out] at this; exact this, HE.out⟩
end Go.Proofs.YtfocejhcdcnnhaaGreatDoor

namespace Go.Proofs.YtfocejhcdcnnhaaGreatDoor
open Go Go.RowKit

def dAllZero (l : List (ByteArray × Int)) : Bool := l.all fun x => decide (x.2 = 0)
def dAllPos (l : List (ByteArray × Int)) : Bool := l.all fun x => decide (0 < x.2)
def dAnyNeg (l : List (ByteArray × Int)) : Bool := l.any fun x => decide (x.2 < 0)
theorem dsgn_zero' (z : Int) : (sgn z == 0) = decide (z = 0) := by
  unfold sgn
  by_cases h1 : z < 0
  · rw [if_pos h1]; have : ¬ z = 0 := by omega
    simp [this]
  · rw [if_neg h1]
    by_cases h2 : 0 < z
    · rw [if_pos h2]; have : ¬ z = 0 := by omega
      simp [this]
    · rw [if_neg h2]; have : z = 0 := by omega
      simp [this]
theorem all_take {α : Type} {l : List α} {f : α → Bool} {k : Nat} (hk : k < l.length) : (l.take (k + 1)).all f = ((l.take k).all f && f l[k]) := by
  rw [List.take_succ_eq_append_getElem hk, List.all_append]; simp
theorem any_take {α : Type} {l : List α} {f : α → Bool} {k : Nat} (hk : k < l.length) : (l.take (k + 1)).any f = ((l.take k).any f || f l[k]) := by
  rw [List.take_succ_eq_append_getElem hk, List.any_append]; simp
theorem all_false {α : Type} {l : List α} {f : α → Bool} {k : Nat} (hk : k < l.length) (h : f l[k] = false) : l.all f = false := by
  rw [Bool.eq_false_iff]; intro e
  have := List.all_eq_true.1 e _ (List.getElem_mem hk)
  rw [h] at this; cases this
theorem any_true {α : Type} {l : List α} {f : α → Bool} {k : Nat} (hk : k < l.length) (h : f l[k] = true) : l.any f = true := List.any_eq_true.2 ⟨_, List.getElem_mem hk, h⟩

set_option maxRecDepth 100000 in
set_option maxHeartbeats 1000000 in
theorem tdAnyNegC (A : Option Addr) (n c : Nat) (l : List Co) (w : World) (hl : l.length = n) (hn : n ≤ 100000) (h : DCoinsAt w A l) :
    Calls Tryz.prog 109 #[.slice A n c] w (RetE (.bool (dAnyNeg (l.map Co.val))) w) := by
  have HL := Lib.hid hl; have HP := Lib.hid h
  clear hl h
  have HLV := Lib.hid (show (l.map Co.val).length = n by simp [HL.out])
  go_enter Tryz.func109, Tryz.ntmps109
  go_wp2
  go_loopw [7] (fun i wr => ∃ k : Nat, k ≤ n ∧ i = .int .i64 k ∧ ((l.map Co.val).take k).any (fun x => decide (x.2 < 0)) = false ∧ Ext w wr) (fun i _ => n - (intOf i).toNat)
  case atStart => exact ⟨0, Nat.zero_le _, rfl, by simp, Ext.refl _⟩
  case round =>
    obtain ⟨k, hk, rfl, hq, hE⟩ := hrel
    have HQ := Lib.hid hq; have HE := Lib.hid hE
    clear hq hE
    by_cases hlt : k < n
    · have hkl : k < l.length := by rw [HL.out]; exact hlt
      have hkv : k < (l.map Co.val).length := by rw [HLV.out]; exact hlt
      obtain ⟨s, hs⟩ : ∃ s, s = l[k].s := ⟨_, rfl⟩
      obtain ⟨b, hb⟩ : ∃ b, b = l[k].b := ⟨_, rfl⟩
      obtain ⟨z, hzz⟩ : ∃ z, z = l[k].z := ⟨_, rfl⟩
      obtain ⟨g, o, hA, hc⟩ := HP.out.1 (by intro e; have := congrArg List.length e; simp at this; rw [this] at hkl; simp at hkl)
      subst hA
      have hck := hc k (by simpa using hkl)
      have cs0 : wr.cell? ⟨g, o + k * 2, none⟩ = some (.string s) := HE.out.cell' (by rw [hck.1, hs]; simp [Co.pair])
      have cs1 : wr.cell? ⟨g, o + k * 2 + 1, none⟩ = some (.pointer (some ⟨b, 0, none⟩)) := HE.out.cell' (by rw [hck.2, hb]; simp [Co.pair])
      have gl := cell_lt cs0
      have HB := Lib.hid (show BigK wr b z by rw [hb, hzz]; exact (HP.out.2 _ (List.getElem_mem hkl)).ext HE.out)
      have HF := Lib.hid (fun (W : World) (e : Ext wr W) => tdIsNegative s b z W (HB.out.ext e))
      have HX := Lib.hid (show (l.map Co.val)[k] = (s, z) by rw [List.getElem_map, hs, hzz]; rfl)
      clear hs hb hzz hck hc
      obtain ⟨r, hr⟩ : ∃ r, r = decide (z < 0) := ⟨_, rfl⟩
      rw [dsgn_neg, ← hr] at HF
      have HR := Lib.hid hr; clear hr
      cases r
      · go_wp2_with (first | (go_at_call 112; (with_reducible refine (HF.out _ (ext1 _ _)).mono ?_); rintro e w1 ⟨rfl, hE1⟩; have HE1 := Lib.hid ((ext1 _ _).trans' hE1); clear hE1))
        go_roundw
        case rel => exact ⟨k + 1, by omega, by go_num, by rw [any_take hkv, HQ.out, HX.out]; exact HR.out.symm, HE.out.trans' HE1.out⟩
        case measure => simp [intOf]; omega
      · have F := Lib.hid (show dAnyNeg (l.map Co.val) = true from any_true hkv (by rw [HX.out]; exact HR.out.symm))
        go_wp2_with (first | (go_at_call 112; (with_reducible refine (HF.out _ (ext1 _ _)).mono ?_); rintro e w1 ⟨rfl, hE1⟩; have HE1 := Lib.hid ((ext1 _ _).trans' hE1); clear hE1))
        go_ret
        rw [F.out]; exact ⟨rfl, HE.out.trans' HE1.out⟩
    · obtain rfl : k = n := by omega
      have F := Lib.hid (show dAnyNeg (l.map Co.val) = false by have := HQ.out; rwa [List.take_of_length_le (by rw [HLV.out]; exact Nat.le_refl _)] at this)
      go_wp2
      go_ret
      rw [F.out]; exact ⟨rfl, HE.out⟩
end Go.Proofs.YtfocejhcdcnnhaaGreatDoor
