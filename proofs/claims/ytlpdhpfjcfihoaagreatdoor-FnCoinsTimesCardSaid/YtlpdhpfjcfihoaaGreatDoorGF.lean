/-
  The contract of Coins.Find (a binary search that calls itself).
  The contract of Coins.Validate: the first thing that is wrong with coins as a set.
  The contracts of Coins.IsZero, IsAllPositive, IsAnyNegative, Empty, IsValid.
  The contract of impl.SortOf, up to 12 coins.
  The contracts of Coins.Equal and impl.EqualOf.
  The contract of the reference's SumSorted, and of IsSumOnce.
  Plain laws of the reference's SumTotal: the sums by denominations of coins in order.
-/
import Derived.Test.YtlpdhpfjcfihoaaGreatDoorGC
import Derived.Test.YtlpdhpfjcfihoaaGreatDoorGD
import Derived.Test.YtlpdhpfjcfihoaaGreatDoorGB
import Derived.Test.YtlpdhpfjcfihoaaGreatDoorGE
import Derived.Deep.RegionLawGrows
import Derived.Deep.RegionHeld3
namespace Go.Proofs.YtlpdhpfjcfihoaaGreatDoor
open Go Go.RowKit

theorem recAt_take {w : World} {A : Option Addr} {ps : List (Value × Value)} (h : RecAt w A ps) (m : Nat) : RecAt w A (ps.take m) := by
  intro hn
  obtain ⟨g, o, ha, hc⟩ := h (by intro e; rw [e] at hn; simp at hn)
  refine ⟨g, o, ha, fun j hj => ?_⟩
  rw [List.length_take] at hj
  have := hc j (by omega)
  rw [List.getElem_take]; exact this
theorem recAt_drop {w : World} {g o : Nat} {ps : List (Value × Value)} (h : RecAt w (some ⟨g, o, none⟩) ps) (m : Nat) : RecAt w (some ⟨g, o + m * 2, none⟩) (ps.drop m) := by
  intro hn
  have hl : m < ps.length := by
    rcases Nat.lt_or_ge m ps.length with h | h
    · exact h
    · rw [List.drop_of_length_le h] at hn; exact absurd rfl hn
  obtain ⟨g', o', ha, hc⟩ := h (by intro e; rw [e] at hl; simp at hl)
  injection ha with ha; injection ha with h1 h2
  subst h1; subst h2
  refine ⟨g, o + m * 2, rfl, fun j hj => ?_⟩
  simp at hj
  have := hc (m + j) (by omega)
  rw [List.getElem_drop]
  rw [show o + m * 2 + j * 2 = o + (m + j) * 2 by omega]; exact this
theorem coinsAt_take {w : World} {A : Option Addr} {l : List Co} (h : CoinsAt w A l) (m : Nat) : CoinsAt w A (l.take m) :=
  ⟨by rw [List.map_take]; exact recAt_take h.1 m, fun c hc => h.2 c (List.mem_of_mem_take hc)⟩
theorem coinsAt_drop {w : World} {g o : Nat} {l : List Co} (h : CoinsAt w (some ⟨g, o, none⟩) l) (m : Nat) : CoinsAt w (some ⟨g, o + m * 2, none⟩) (l.drop m) :=
  ⟨by rw [List.map_drop]; exact recAt_drop h.1 m, fun c hc => h.2 c (List.mem_of_mem_drop hc)⟩

theorem w64 {x : Int} (h0 : 0 ≤ x) (h1 : x ≤ 1000001) : wrap64 x = x := by unfold wrap64; omega
/-- The coin of a name, or none. -/
def RetFind (l : List Co) (d : ByteArray) (w : World) (e : Ending) (w' : World) : Prop :=
  ((e = .returned (.tuple #[.bool false, .agg #[.string ByteArray.empty, .pointer none]]) ∧ ∀ x ∈ l, x.s ≠ d) ∨ ∃ x ∈ l, x.s = d ∧ e = .returned (.tuple #[.bool true, coinV d x.b])) ∧ Ext w w'
theorem lt_ne {a b : ByteArray} (h : keyLt a b = true) : a ≠ b := by rintro rfl; rw [keyLt_irrefl] at h; cases h
theorem find_low {l : List Co} {d : ByteArray} {m : Nat} (hm : m < l.length) (hs : l.Pairwise fun a b => le (Co.s a) (Co.s b)) (h : keyLt d l[m].s = true) (hn : ∀ x ∈ l.take m, x.s ≠ d) : ∀ x ∈ l, x.s ≠ d := by
  intro x hx
  obtain ⟨j, hj, rfl⟩ := List.getElem_of_mem hx
  rcases Nat.lt_trichotomy j m with e | e | e
  · exact hn _ (List.mem_take_iff_getElem.2 ⟨j, by omega, by simp⟩)
  · subst e; exact (lt_ne h).symm
  · exact (lt_ne (key_lt_of_lt_of_le h (List.pairwise_iff_getElem.1 hs m j hm hj e))).symm
theorem find_high {l : List Co} {d : ByteArray} {m : Nat} (hm : m < l.length) (hs : l.Pairwise fun a b => le (Co.s a) (Co.s b)) (h : keyLt l[m].s d = true) (hn : ∀ x ∈ l.drop (m + 1), x.s ≠ d) : ∀ x ∈ l, x.s ≠ d := by
  intro x hx
  obtain ⟨j, hj, rfl⟩ := List.getElem_of_mem hx
  rcases Nat.lt_or_ge m j with e | e
  · exact hn _ (List.mem_drop_iff_getElem.2 ⟨j - (m + 1), by omega, by congr 1; omega⟩)
  · intro e2
    have hle : le l[j].s l[m].s := by
      rcases Nat.lt_or_ge j m with f | f
      · exact List.pairwise_iff_getElem.1 hs j m hj hm f
      · obtain rfl : j = m := by omega
        exact le_refl _
    rw [e2] at hle
    unfold le at hle; rw [h] at hle; cases hle

end Go.Proofs.YtlpdhpfjcfihoaaGreatDoor

namespace Go.Proofs.YtlpdhpfjcfihoaaGreatDoor
open Go Go.RowKit

/-- "denomination is not sorted", "duplicate denomination", "coin amount is not positive". -/
abbrev notSorted : ByteArray := ⟨#[100, 101, 110, 111, 109, 105, 110, 97, 116, 105, 111, 110, 32, 105, 115, 32, 110, 111, 116, 32, 115, 111, 114, 116, 101, 100]⟩
abbrev duplDenom : ByteArray := ⟨#[100, 117, 112, 108, 105, 99, 97, 116, 101, 32, 100, 101, 110, 111, 109, 105, 110, 97, 116, 105, 111, 110]⟩
abbrev notPos : ByteArray := ⟨#[99, 111, 105, 110, 32, 97, 109, 111, 117, 110, 116, 32, 105, 115, 32, 110, 111, 116, 32, 112, 111, 115, 105, 116, 105, 118, 101]⟩
/-- What is wrong with a coin behind one of the name p. -/
def errOne (p : Option ByteArray) (x : ByteArray × Int) : Option ByteArray :=
  if denomB x.1 = false then some invDenom else
  match p with
  | some q => if keyLt x.1 q = true then some notSorted else if x.1 = q then some duplDenom else if x.2 ≤ 0 then some notPos else none
  | none => if x.2 ≤ 0 then some notPos else none
def errAt (l : List (ByteArray × Int)) (j : Nat) : Option ByteArray :=
  match l[j]? with
  | none => none
  | some x => errOne (if j = 0 then none else (l[j - 1]?).map Prod.fst) x
/-- The first thing that is wrong with a list; none: nothing. -/
def ErrIs (l : List (ByteArray × Int)) (o : Option ByteArray) : Prop :=
  match o with
  | none => ∀ j, errAt l j = none
  | some t => ∃ j, errAt l j = some t ∧ ∀ i, i < j → errAt l i = none
theorem errIs_unique {l : List (ByteArray × Int)} {o o' : Option ByteArray} (h : ErrIs l o) (h' : ErrIs l o') : o = o' := by
  cases o with
  | none =>
    cases o' with
    | none => rfl
    | some t =>
      obtain ⟨j, hj, _⟩ := h'
      have := h j; rw [hj] at this; cases this
  | some t =>
    obtain ⟨j, hj, hi⟩ := h
    cases o' with
    | none => have := h' j; rw [hj] at this; cases this
    | some t' =>
      obtain ⟨j', hj', hi'⟩ := h'
      rcases Nat.lt_trichotomy j j' with e | e | e
      · have := hi' j e; rw [hj] at this; cases this
      · subst e; rw [hj] at hj'; exact hj'
      · have := hi j' e; rw [hj'] at this; cases this
theorem errAt_zero {l : List (ByteArray × Int)} (h : 0 < l.length) : errAt l 0 = errOne none l[0] := by unfold errAt; rw [List.getElem?_eq_getElem h]; rfl
theorem errAt_succ {l : List (ByteArray × Int)} {k : Nat} (h : k + 1 < l.length) : errAt l (k + 1) = errOne (some l[k].1) l[k + 1] := by
  unfold errAt; rw [List.getElem?_eq_getElem h, if_neg (by omega), Nat.add_sub_cancel, List.getElem?_eq_getElem (by omega)]; rfl
theorem errAt_out {l : List (ByteArray × Int)} {j : Nat} (h : l.length ≤ j) : errAt l j = none := by unfold errAt; rw [List.getElem?_eq_none h]
theorem errIs_none {l : List (ByteArray × Int)} {k : Nat} (h : ∀ j, j ≤ k → errAt l j = none) (hk : l.length ≤ k + 1) : ErrIs l none := fun j => by
  rcases Nat.lt_or_ge k j with e | e
  · exact errAt_out (by omega)
  · exact h j e
theorem errIs_some {l : List (ByteArray × Int)} {k : Nat} {t : ByteArray} (h : ∀ j, j ≤ k → errAt l j = none) (e : errAt l (k + 1) = some t) : ErrIs l (some t) := ⟨k + 1, e, fun i hi => h i (by omega)⟩
theorem sgn_pos (z : Int) : (sgn z == 1) = decide (0 < z) := by
  unfold sgn
  by_cases h1 : z < 0
  · rw [if_pos h1]; have : ¬ 0 < z := by omega
    simp [this]
  · rw [if_neg h1]
    by_cases h2 : 0 < z
    · rw [if_pos h2]; simp [h2]
    · rw [if_neg h2]; simp [h2]

/-- No error, or this one. -/
def RetErrO (o : Option ByteArray) (w : World) (e : Ending) (w' : World) : Prop :=
  match o with
  | none => e = .returned .nilIface ∧ Ext w w'
  | some t => RetErr t w e w'
def RetErrOf (l : List (ByteArray × Int)) (w : World) (e : Ending) (w' : World) : Prop := ∃ o, ErrIs l o ∧ RetErrO o w e w'
theorem tValidBad {s : ByteArray} (hs : s.size ≤ 9223372036854775807) (h : denomB s = false) (w : World) : Calls Tryz.prog 119 #[.string s] w (RetErr invDenom w) :=
  (tValid s w hs).mono (by rw [h]; rintro e w' (⟨h, _⟩ | ⟨_, h⟩); cases h; exact h)
theorem tValidGood {s : ByteArray} (hs : s.size ≤ 9223372036854775807) (h : denomB s = true) (w : World) : Calls Tryz.prog 119 #[.string s] w (fun e w' => e = .returned .nilIface ∧ w' = w) :=
  (tValid s w hs).mono (by rw [h]; rintro e w' (⟨_, h⟩ | ⟨h, _⟩); exact h; cases h)

end Go.Proofs.YtlpdhpfjcfihoaaGreatDoor

namespace Go.Proofs.YtlpdhpfjcfihoaaGreatDoor
open Go Go.RowKit

end Go.Proofs.YtlpdhpfjcfihoaaGreatDoor

namespace Go.Proofs.YtlpdhpfjcfihoaaGreatDoor
open Go Go.RowKit

/-- Plain coins handed back, in order. -/
def RetSorted (E : TypeId) (l : List (ByteArray × Int)) (w : World) (e : Ending) (w' : World) : Prop := ∃ r, RetPlain E r w e w' ∧ r.Perm l ∧ r.Pairwise fun a b => le a.1 b.1

set_option maxRecDepth 100000 in
theorem tSortNil (w : World) : Calls Tryz.prog 194 #[.slice none 0 0] w fun e w' => e = .returned (.slice none 0 0) ∧ w' = w := by
  go_enter Tryz.func194, Tryz.ntmps194
  go_wp2
  go_ret
  exact ⟨rfl, rfl⟩
/-- Coins.Sort of coins of the call's own, in order behind it. -/
def RetOwnSorted (base : Nat) (L0 : List Co) (w : World) (e : Ending) (w' : World) : Prop :=
  ∃ v L, e = .returned v ∧ CoinsOwn w' base v L ∧ L.Perm L0 ∧ (L.Pairwise fun a b => le (Co.s a) (Co.s b)) ∧ ∀ w0 : World, Ext w0 w → w0.heap.size ≤ base → Ext w0 w'
theorem tSortOwn {base : Nat} {v : Value} {L0 : List Co} {w : World} (h : CoinsOwn w base v L0) (hn : L0.length ≤ 12) : Calls Tryz.prog 194 #[v] w (RetOwnSorted base L0 w) := by
  rcases h.1.2 with ⟨hv, hn0⟩ | ⟨g, cap, cur, hv, hbg, hgb, hnc, hcm, hcs, hct⟩
  · subst hv
    obtain rfl : L0 = [] := List.length_eq_zero_iff.1 hn0
    refine (tSortNil w).mono ?_
    rintro e w' ⟨rfl, rfl⟩
    exact ⟨_, [], rfl, CoinsOwn.nil _ _, List.Perm.refl _, List.Pairwise.nil, fun w0 e0 _ => e0⟩
  · subst hv
    have hrow := row_of_own hgb hct
    refine (tSort g L0.length cap L0 _ w hrow rfl (Or.inl hn)).mono ?_
    rintro e w' ⟨rfl, L, hr, ho, hP, hS⟩
    have hl := hP.length_eq
    have h1 : (flat2 (L.map Co.pair)).length = L.length * 2 := by rw [flat2_length]; simp
    refine ⟨_, L, rfl, ⟨⟨by rw [flat2_length]; simp, Or.inr ⟨g, cap, (flat2 (L.map Co.pair) ++ cur.toList.drop (L0.length * 2)).toArray, by rw [hl], hbg, hr, by omega, hcm, ?_, ?_⟩⟩, fun x hx => (h.2 x (hP.mem_iff.1 hx)).only ho hrow⟩, hP, hS, fun w0 e0 hb => Only.ext e0 ho (by omega)⟩
    · simp [h1]; omega
    · rw [show (flat2 (L.map Co.pair) ++ cur.toList.drop (L0.length * 2)).toArray.toList = flat2 (L.map Co.pair) ++ cur.toList.drop (L0.length * 2) from rfl, List.take_append_of_le_length (by omega), List.take_of_length_le (by omega)]

theorem perm_plain {L cs : List Co} {l : List (ByteArray × Int)} (hP : L.Perm cs) (hv : cs.map Co.val = l) : (L.map Co.val).Perm l := hv ▸ hP.map _
end Go.Proofs.YtlpdhpfjcfihoaaGreatDoor

namespace Go.Proofs.YtlpdhpfjcfihoaaGreatDoor
open Go Go.RowKit

/-- Sorted in a row of the call's own; nothing but that row has turned. -/
def RetSortRow (base : Nat) (v : Value) (L0 : List Co) (w : World) (e : Ending) (w' : World) : Prop :=
  ∃ L, e = .returned v ∧ CoinsOwn w' base v L ∧ L.Perm L0 ∧ (L.Pairwise fun a b => le (Co.s a) (Co.s b)) ∧ w.grownBy w' v.ownBlock
theorem tSortRow {base : Nat} {v : Value} {L0 : List Co} {w : World} (h : CoinsOwn w base v L0) (hn : L0.length ≤ 12) : Calls Tryz.prog 194 #[v] w (RetSortRow base v L0 w) := by
  rcases h.1.2 with ⟨hv, hn0⟩ | ⟨g, cap, cur, hv, hbg, hgb, hnc, hcm, hcs, hct⟩
  · subst hv
    obtain rfl : L0 = [] := List.length_eq_zero_iff.1 hn0
    refine (tSortNil w).mono ?_
    rintro e w' ⟨rfl, rfl⟩
    exact ⟨[], rfl, CoinsOwn.nil _ _, List.Perm.refl _, List.Pairwise.nil, World.grownBy.refl _ _⟩
  · subst hv
    have hrow := row_of_own hgb hct
    refine (tSort g L0.length cap L0 _ w hrow rfl (Or.inl hn)).mono ?_
    rintro e w' ⟨rfl, L, hr, ho, hP, hS⟩
    have hl := hP.length_eq
    have h1 : (flat2 (L.map Co.pair)).length = L.length * 2 := by rw [flat2_length]; simp
    refine ⟨L, rfl, ⟨⟨by rw [flat2_length]; simp, Or.inr ⟨g, cap, (flat2 (L.map Co.pair) ++ cur.toList.drop (L0.length * 2)).toArray, by rw [hl], hbg, hr, by omega, hcm, ?_, ?_⟩⟩, fun x hx => (h.2 x (hP.mem_iff.1 hx)).only ho hrow⟩, hP, hS, ho⟩
    · simp [h1]; omega
    · rw [show (flat2 (L.map Co.pair) ++ cur.toList.drop (L0.length * 2)).toArray.toList = flat2 (L.map Co.pair) ++ cur.toList.drop (L0.length * 2) from rfl, List.take_append_of_le_length (by omega), List.take_of_length_le (by omega)]
/-- Another row stays. -/
theorem own_keep {w w' : World} {base b2 : Nat} {v v2 : Value} {L M : List Co} (h2 : CoinsOwn w b2 v2 M) (h : CoinsOwn w base v L) (hg : w.grownBy w' v.ownBlock) (hne : ∀ g, v.ownBlock = some g → v2.ownBlock ≠ some g) : CoinsOwn w' b2 v2 M := by
  refine ⟨⟨h2.1.1, ?_⟩, fun x hx => (h2.2 x hx).grown h.1 hg⟩
  rcases h2.1.2 with hn | ⟨g, cap, cur, hv, hb, hh, r⟩
  · exact Or.inl hn
  · refine Or.inr ⟨g, cap, cur, hv, hb, ?_, r⟩
    rw [← hh]
    refine hg.block g (Array.getElem?_eq_some_iff.1 hh).1 fun e => hne g e.symm ?_
    rw [hv]; rfl
theorem own_block {w : World} {base : Nat} {v : Value} {L : List Co} (h : CoinsOwn w base v L) : ∀ g, v.ownBlock = some g → base ≤ g ∧ g < w.heap.size := by
  intro g hg
  rcases h.1.2 with ⟨hv, _⟩ | ⟨g', cap, cur, hv, hb, hh, _⟩
  · subst hv; simp [Value.ownBlock] at hg
  · subst hv
    simp [Value.ownBlock] at hg
    subst hg
    exact ⟨hb, (Array.getElem?_eq_some_iff.1 hh).1⟩
theorem grown_old {w w' : World} {base : Nat} {v : Value} {L : List Co} (h : CoinsOwn w base v L) (hg : w.grownBy w' v.ownBlock) {w0 : World} (e0 : Ext w0 w) (hb : w0.heap.size ≤ base) : Ext w0 w' :=
  Below.grown e0 hg e0.size (fun g hv => Nat.le_trans hb (own_block h g hv).1)

theorem coinEq_eq (s t : ByteArray) (y z : Int) : coinEq s t y z = decide ((s, y) = (t, z)) := by
  unfold coinEq
  rw [key_beq]
  by_cases h : s = t
  · subst h
    by_cases k : y = z
    · subst k; simp [cmpZ]
    · have : cmpZ y z ≠ 0 := by unfold cmpZ; split; · decide
                                split; · decide
                                omega
      simp [k, this]
  · simp [h]

/-- Two lists held against each other: of different lengths; or sorted, and then coin by coin. -/
def RetEqual (b1 b2 : Nat) (L0 M0 : List Co) (w : World) (e : Ending) (w' : World) : Prop :=
  ((L0.length ≠ M0.length ∧ e = .returned (.bool false)) ∨ ∃ L M : List Co, L.Perm L0 ∧ M.Perm M0 ∧ (L.Pairwise fun a b => le (Co.s a) (Co.s b)) ∧ (M.Pairwise fun a b => le (Co.s a) (Co.s b)) ∧ e = .returned (.bool (decide (L.map Co.val = M.map Co.val)))) ∧
  ∀ w0, Ext w0 w → w0.heap.size ≤ b1 → w0.heap.size ≤ b2 → Ext w0 w'
theorem val_take {L M : List Co} {k : Nat} (hk : k < L.length) (hk' : k < M.length) (h : (L.map Co.val).take k = (M.map Co.val).take k) (e : Co.val L[k] = Co.val M[k]) : (L.map Co.val).take (k + 1) = (M.map Co.val).take (k + 1) := by
  rw [List.take_succ_eq_append_getElem (by simpa using hk), List.take_succ_eq_append_getElem (by simpa using hk'), h]
  simp [e]
theorem val_ne {L M : List Co} {k : Nat} (hk : k < L.length) (hk' : k < M.length) (e : Co.val L[k] ≠ Co.val M[k]) : decide (L.map Co.val = M.map Co.val) = false := by
  rw [decide_eq_false_iff_not]; intro h
  have : (L.map Co.val)[k]? = (M.map Co.val)[k]? := by rw [h]
  rw [List.getElem?_eq_getElem (by simpa using hk), List.getElem?_eq_getElem (by simpa using hk')] at this
  simp at this; exact e this

theorem both2 {α : Type} {Q : α → Prop} {l m : List α} (h : ∀ x ∈ l, Q x) (k : ∀ x ∈ m, Q x) : ∀ x ∈ l ++ m, Q x := fun x hx => (List.mem_append.1 hx).elim (h x) (k x)
/-- Two plain lists held against each other. -/
def RetEqualOf (l l' : List (ByteArray × Int)) (w : World) (e : Ending) (w' : World) : Prop :=
  ((l.length ≠ l'.length ∧ e = .returned (.bool false)) ∨ ∃ r r' : List (ByteArray × Int), r.Perm l ∧ r'.Perm l' ∧ (r.Pairwise fun a b => le a.1 b.1) ∧ (r'.Pairwise fun a b => le a.1 b.1) ∧ e = .returned (.bool (decide (r = r')))) ∧ Ext w w'
theorem val_bound {cs : List Co} {l : List (ByteArray × Int)} (h : cs.map Co.val = l) (hz : ∀ x ∈ l, -maxI ≤ x.2 ∧ x.2 ≤ maxI) : ∀ x ∈ cs, x.z.natAbs < B64 := by
  intro x hx
  have := hz x.val (by rw [← h]; exact List.mem_map_of_mem hx)
  have e : x.val.2 = x.z := rfl
  rw [e] at this; unfold maxI at this; unfold B64; omega

theorem equal_fact {l l' : List (ByteArray × Int)} {w w' : World} {e : Ending} (h : RetEqualOf l l' w e w') (ho : onceB l = true) (ho' : onceB l' = true) :
    ∃ q : Bool, e = .returned (.bool q) ∧ (∀ ra rb : List (ByteArray × Int), ra.Perm l → (ra.Pairwise fun a b => le a.1 b.1) → rb.Perm l' → (rb.Pairwise fun a b => le a.1 b.1) → decide (ra = rb) = q) ∧ Ext w w' := by
  obtain ⟨h1, h2⟩ := h
  rcases h1 with ⟨hne, rfl⟩ | ⟨r, r', hp, hp', hs, hs', rfl⟩
  · refine ⟨false, rfl, fun ra rb h3 _ h5 _ => ?_, h2⟩
    rw [decide_eq_false_iff_not]; rintro rfl
    exact hne (h3.length_eq.symm.trans h5.length_eq)
  · refine ⟨_, rfl, fun ra rb h3 h4 h5 h6 => ?_, h2⟩
    rw [sorted_same h3 h4 hp hs ho, sorted_same h5 h6 hp' hs' ho']
end Go.Proofs.YtlpdhpfjcfihoaaGreatDoor

namespace Go.Proofs.YtlpdhpfjcfihoaaGreatDoor
open Go Go.RowKit

theorem run_append_none {P : Program} (w : World) (t ty e : TypeId) (i : TypeInfo) (h1 : P.underlying t = some (.slice e)) (h2 : P.info? e = some i) (a x : Option Addr) (n cap c : Nat) (h : n ≤ cap) :
    (Builtin.append_ #[t, t] ty #[.slice a n cap, .slice x 0 c]).run P w = .ok (.slice a n cap) w := by
  cases a <;> cases x <;> simp [Builtin.append_, run_underlying h1, Go.sizeOf, typeInfo, h2, Result.andThen, Builtin.lenOf, Builtin.firstCells, h, storeCells, loadCells, loadCellsFrom]
theorem step_append_none {P : Program} {ops : Array Oper} {o : Oper} {a : Act} {w : World} {K : Act → World → Prop} {Q : Exit → Act → World → Prop} {E : Prop}
    (hg : o.guard = none) (s x : Operand) (t : TypeId) (hop : o.op = Op.call { callee := Callee.builtin Builtin.append, args := #[s, x], argTypes := #[t, t] })
    (e : TypeId) (i : TypeInfo) (h1 : P.underlying t = some (.slice e)) (h2 : P.info? e = some i) (ao ax : Option Addr) (n cap c : Nat) (hs : a.eval s = .slice ao n cap) (hx : a.eval x = .slice ax 0 c) (h : n ≤ cap)
    (hK : K (a.put o.dst (.slice ao n cap)) w) : if Region.wanted o (yielded ops a.tmps) = true then Oper.wp P o a w K Q else E := by
  have hw : Region.wanted o (yielded ops a.tmps) = true := by simp [Region.wanted, hg]
  rw [if_pos hw]
  have hrun := run_append_none (P := P) w t o.type e i h1 h2 ao ax n cap c h
  unfold Oper.wp
  simp [execOp, hop, resolve, invoke, builtin, hs, hx, hrun, Result.andThen]
  exact hK

theorem ext_none {a b : World} (h : a.grownBy b none) : Ext a b := ⟨h.os, h.tape, h.output, h.size, fun i hi => h.block i hi (by simp)⟩
theorem ext_da (w : World) (o o' : Obj) (n : Nat) : Ext w (((w.alloc o).drewN n).alloc o') := ((Ext.alloc' _ _).trans' (Ext.drewN' _ _)).trans' (Ext.alloc' _ _)
theorem ext_dda (w : World) (o o' : Obj) (n : Nat) : Ext w (((w.alloc o).drewN n).drew.alloc o') := (((Ext.alloc' _ _).trans' (Ext.drewN' _ _)).trans' (Ext.drewN' _ 1)).trans' (Ext.alloc' _ _)
theorem two_da (w : World) (a b : Value) (t : TypeId) (n : Nat) : ∀ j u, [a, b][j]? = some u → (((w.alloc (.cells #[a, b] t)).drewN n).alloc (.cells #[a, b] t)).cell? ((⟨w.heap.size + 1, 0, none⟩ : Addr).add j) = some u := by
  have := cell_two_new ((w.alloc (.cells #[a, b] t)).drewN n) a b t
  rwa [show ((w.alloc (.cells #[a, b] t)).drewN n).heap.size = w.heap.size + 1 by simp] at this
theorem keep_rec {a b : World} {g : Nat} {u v : Value} (h : a.cell? ⟨g, 0, none⟩ = some u ∧ a.cell? ⟨g, 1, none⟩ = some v) (e : Ext a b) : b.cell? ⟨g, 0, none⟩ = some u ∧ b.cell? ⟨g, 1, none⟩ = some v := ⟨e.cell' h.1, e.cell' h.2⟩
theorem two_at (w : World) (a b : Value) (t : TypeId) (n : Nat) : (((w.alloc (.cells #[a, b] t)).drewN n).alloc (.cells #[a, b] t)).cell? ⟨w.heap.size, 0, none⟩ = some a ∧ (((w.alloc (.cells #[a, b] t)).drewN n).alloc (.cells #[a, b] t)).cell? ⟨w.heap.size, 1, none⟩ = some b :=
  ⟨cell_old _ (show (w.alloc _).cell? _ = _ by rw [cell_new]; rfl), cell_old _ (show (w.alloc _).cell? _ = _ by rw [cell_new]; rfl)⟩
theorem two_at' (w : World) (a b : Value) (t : TypeId) (n : Nat) : (((w.alloc (.cells #[a, b] t)).drewN n).drew.alloc (.cells #[a, b] t)).cell? ⟨w.heap.size, 0, none⟩ = some a ∧ (((w.alloc (.cells #[a, b] t)).drewN n).drew.alloc (.cells #[a, b] t)).cell? ⟨w.heap.size, 1, none⟩ = some b :=
  ⟨cell_old _ (show (w.alloc _).cell? _ = _ by rw [cell_new]; rfl), cell_old _ (show (w.alloc _).cell? _ = _ by rw [cell_new]; rfl)⟩
theorem flat2_drop (l : List (Value × Value)) (j : Nat) : flat2 (l.drop j) = (flat2 l).drop (j * 2) := by
  induction l generalizing j with
  | nil => simp [flat2]
  | cons a t ih =>
    cases j with
    | zero => simp
    | succ j =>
      rw [List.drop_succ_cons, ih, show (j + 1) * 2 = j * 2 + 1 + 1 by omega]
      simp [flat2]
/-- The cells of a row's end. -/
theorem row_part {w W : World} {g : Nat} {E : TypeId} {cur : Array Value} {out : List (ByteArray × Int)} (hb : Blk w g E cur.toList) (ht : cur.toList.take (out.length * 2) = flat2 (out.map plain)) (e : Ext w W) (j : Nat) (_ : j ≤ out.length) :
    ∀ i u, (flat2 ((out.drop j).map plain))[i]? = some u → W.cell? ((⟨g, j * 2, none⟩ : Addr).add i) = some u := by
  intro i u hu
  rw [List.map_drop, flat2_drop, List.getElem?_drop, ← ht, List.getElem?_take] at hu
  split at hu
  · have hadd : (⟨g, j * 2, none⟩ : Addr).add i = ⟨g, j * 2 + i, none⟩ := by unfold Addr.add; split <;> simp_all
    rw [hadd]
    exact e.cell' ((hb.cell _).trans hu)
  · cases hu
theorem flat2_take (l : List (Value × Value)) (j : Nat) : flat2 (l.take j) = (flat2 l).take (j * 2) := by
  induction l generalizing j with
  | nil => simp [flat2]
  | cons a t ih =>
    cases j with
    | zero => simp [flat2]
    | succ j =>
      rw [List.take_succ_cons, flat2_cons, ih, flat2_cons, show (j + 1) * 2 = j * 2 + 1 + 1 by omega]
      simp
/-- The cells of a row's head. -/
theorem row_head {w W : World} {g : Nat} {E : TypeId} {cur : Array Value} {out : List (ByteArray × Int)} (hb : Blk w g E cur.toList) (ht : cur.toList.take (out.length * 2) = flat2 (out.map plain)) (e : Ext w W) (j : Nat) (_ : j ≤ out.length) (b : Addr) (hB : (some (⟨g, 0, none⟩ : Addr)) = some b) :
    ∀ i u, (flat2 ((out.take j).map plain))[i]? = some u → W.cell? (b.add i) = some u := by
  intro i u hu
  obtain rfl := (Option.some.inj hB).symm
  rw [List.map_take, flat2_take, ← ht, List.getElem?_take, List.getElem?_take] at hu
  split at hu
  · split at hu
    · have hadd : (⟨g, 0, none⟩ : Addr).add i = ⟨g, i, none⟩ := by unfold Addr.add; split <;> simp_all
      rw [hadd]
      exact e.cell' ((hb.cell _).trans hu)
    · cases hu
  · cases hu
theorem row_fst {w : World} {g : Nat} {E : TypeId} {cur : Array Value} {out : List (ByteArray × Int)} (hb : Blk w g E cur.toList) (ht : cur.toList.take (out.length * 2) = flat2 (out.map plain)) (j : Nat) (hj : j < out.length) : w.cell? ⟨g, j * 2, none⟩ = some (.string out[j].1) := by
  have h1 := (flat2_get (out.map plain) j (by simpa using hj)).1
  rw [← ht, List.getElem?_take, if_pos (by omega)] at h1
  rw [hb.cell, h1]; simp [plain]
theorem ins_fin {w W1 w40 : World} {base J m : Nat} {E : TypeId} {v : Value} {s : ByteArray} {z : Int} {out : List (ByteArray × Int)} (hE : Ext w W1)
    (h : w40.ownsRow base E 2 v (J + (1 + m)) (flat2 ((out.take J).map plain) ++ ([.string s, .int .i64 z] ++ flat2 ((out.drop J).map plain)))) (e : Ext W1 w40) (hb : w.heap.size ≤ base) :
    PlainOwn w40 w.heap.size E v (out.take J ++ (s, z) :: out.drop J) ∧ Ext w w40 := by
  refine ⟨?_, hE.trans' e⟩
  have hl : (out.take J ++ (s, z) :: out.drop J).length = J + (1 + m) := by
    have := h.1
    simp only [List.length_append, flat2_length, List.length_map, List.length_cons, List.length_nil] at this ⊢
    omega
  unfold PlainOwn
  rw [hl]
  have := row_low h hb
  simpa [flat2_append, flat2_cons, plain] using this
theorem ins_fin0 {w W1 w40 : World} {base J : Nat} {E : TypeId} {v : Value} {s : ByteArray} {z : Int} {out : List (ByteArray × Int)} (hE : Ext w W1)
    (h : w40.ownsRow base E 2 v (J + 1) (flat2 ((out.take J).map plain) ++ [.string s, .int .i64 z])) (e : Ext W1 w40) (hb : w.heap.size ≤ base) :
    PlainOwn w40 w.heap.size E v (out.take J ++ [(s, z)]) ∧ Ext w w40 := by
  refine ⟨?_, hE.trans' e⟩
  have hl : (out.take J ++ [(s, z)]).length = J + 1 := by
    have := h.1
    simp only [List.length_append, flat2_length, List.length_map, List.length_cons, List.length_nil] at this ⊢
    omega
  unfold PlainOwn
  rw [hl]
  have := row_low h hb
  simpa [flat2_append, flat2_cons, plain, flat2] using this
theorem ins_perm {l out : List (ByteArray × Int)} {k : Nat} {s : ByteArray} {z : Int} (hk : k < l.length) (hp : out.Perm (l.take k)) (he : l[k] = (s, z)) (J : Nat) : (out.take J ++ (s, z) :: out.drop J).Perm (l.take (k + 1)) := by
  rw [List.take_succ_eq_append_getElem hk, he]
  refine List.perm_middle.trans ?_
  rw [List.take_append_drop]
  exact (List.Perm.cons _ hp).trans (List.perm_append_singleton _ _).symm
theorem ins_perm0 {l out : List (ByteArray × Int)} {k : Nat} {s : ByteArray} {z : Int} {J : Nat} (hk : k < l.length) (hp : out.Perm (l.take k)) (he : l[k] = (s, z)) (hJ : out.length ≤ J) : (out.take J ++ [(s, z)]).Perm (l.take (k + 1)) := by
  have := ins_perm hk hp he J
  rwa [List.drop_eq_nil_of_le hJ] at this
theorem ins_pair {out : List (ByteArray × Int)} {J : Nat} {s : ByteArray} {z : Int} (h : out.Pairwise fun a b => le a.1 b.1) (hq : ∀ p, (hp : p < out.length) → J ≤ p → keyLt s out[p].1 = true) (hlo : ∀ p, (hp : p < out.length) → p < J → le out[p].1 s) (_ : J ≤ out.length) :
    (out.take J ++ (s, z) :: out.drop J).Pairwise fun a b => le a.1 b.1 := by
  have h1 : ∀ a ∈ out.take J, le a.1 s := fun a ha => by
    obtain ⟨p, hp, rfl⟩ := List.getElem_of_mem ha
    simp at hp
    rw [List.getElem_take]; exact hlo p (by omega) (by omega)
  have h2 : ∀ b ∈ out.drop J, le s b.1 := fun b hb => by
    obtain ⟨p, hp, rfl⟩ := List.getElem_of_mem hb
    simp at hp
    rw [List.getElem_drop]; exact le_of_lt (hq _ (by omega) (by omega))
  rw [List.pairwise_append]
  refine ⟨h.sublist (List.take_sublist _ _), ?_, ?_⟩
  · rw [List.pairwise_cons]
    exact ⟨h2, h.sublist (List.drop_sublist _ _)⟩
  · intro a ha b hb
    rcases List.mem_cons.1 hb with rfl | hb
    · exact h1 a ha
    · exact le_trans (h1 a ha) (h2 b hb)
theorem ins_pair0 {out : List (ByteArray × Int)} {J : Nat} {s : ByteArray} {z : Int} (h : out.Pairwise fun a b => le a.1 b.1) (hlo : ∀ p, (hp : p < out.length) → p < J → le out[p].1 s) (hJ : out.length ≤ J) :
    (out.take J ++ [(s, z)]).Pairwise fun a b => le a.1 b.1 := by
  rw [List.take_of_length_le hJ, List.pairwise_append]
  refine ⟨h, List.pairwise_singleton _ _, fun a ha b hb => ?_⟩
  rw [List.mem_singleton] at hb; subst hb
  obtain ⟨p, hp, rfl⟩ := List.getElem_of_mem ha
  exact hlo p hp (by omega)
theorem plain_one' (l : List (ByteArray × Int)) : ∀ u ∈ flat2 (l.map plain), u.oneCell' = true := by
  intro u hu
  obtain ⟨p, hp, hu⟩ := List.mem_flatMap.1 hu
  obtain ⟨x, _, rfl⟩ := List.mem_map.1 hp
  simp [plain] at hu
  rcases hu with rfl | rfl <;> rfl

end Go.Proofs.YtlpdhpfjcfihoaaGreatDoor

namespace Go.Proofs.YtlpdhpfjcfihoaaGreatDoor
open Go Go.RowKit

theorem totalP_nil (s : ByteArray) : totalP s [] = 0 := rfl
theorem totalP_cons (s : ByteArray) (x : ByteArray × Int) (l : List (ByteArray × Int)) : totalP s (x :: l) = (if x.1 = s then x.2 else 0) + totalP s l := by
  unfold totalP
  by_cases h : x.1 = s <;> simp [h]
theorem totalP_append (s : ByteArray) (l m : List (ByteArray × Int)) : totalP s (l ++ m) = totalP s l + totalP s m := by
  induction l with
  | nil => simp [totalP_nil]
  | cons x l ih => rw [List.cons_append, totalP_cons, totalP_cons, ih]; omega
theorem totalP_perm (s : ByteArray) {l m : List (ByteArray × Int)} (h : l.Perm m) : totalP s l = totalP s m := by
  induction h with
  | nil => rfl
  | cons x _ ih => rw [totalP_cons, totalP_cons, ih]
  | swap x y l => rw [totalP_cons, totalP_cons, totalP_cons, totalP_cons]; omega
  | trans _ _ h1 h2 => rw [h1, h2]
theorem totalP_none {s : ByteArray} {l : List (ByteArray × Int)} (h : ∀ x ∈ l, x.1 ≠ s) : totalP s l = 0 := by
  induction l with
  | nil => rfl
  | cons x l ih => rw [totalP_cons, if_neg (h x (by simp)), ih (fun y hy => h y (by simp [hy]))]; omega
theorem totalP_bound' (s : ByteArray) {l : List (ByteArray × Int)} {m : Nat} (h : ∀ x ∈ l, x.2.natAbs ≤ m) : (totalP s l).natAbs ≤ l.length * m := by
  induction l with
  | nil => simp [totalP_nil]
  | cons x l ih =>
    have h1 := h x (by simp)
    have h2 := ih (fun y hy => h y (by simp [hy]))
    rw [totalP_cons, List.length_cons, Nat.add_mul]
    split <;> omega
theorem isAdd_perm {l m r : List (ByteArray × Int)} (hp : l.Perm m) (h : IsAdd l r) : IsAdd m r := by
  obtain ⟨ks, h1, h2, rfl⟩ := h
  refine ⟨ks, h1, fun s => (h2 s).trans ⟨?_, ?_⟩, ?_⟩
  · rintro ⟨x, hx, e⟩; exact ⟨x, hp.mem_iff.1 hx, e⟩
  · rintro ⟨x, hx, e⟩; exact ⟨x, hp.mem_iff.2 hx, e⟩
  · unfold coalP; congr 1; funext s; rw [totalP_perm s hp]

theorem totalP_bound (s : ByteArray) {l : List (ByteArray × Int)} (h : ∀ x ∈ l, x.2.natAbs ≤ 1125899906842624) : (totalP s l).natAbs ≤ l.length * 1125899906842624 := totalP_bound' s h
theorem strict_sorted {r : List (ByteArray × Int)} (h : r.Pairwise fun a b => keyLt a.1 b.1 = true) : sortedB (r.map Prod.fst) = true :=
  sortedB_true fun j hj => by
    have := List.pairwise_iff_getElem.1 h j (j + 1) (by simp at hj; omega) (by simpa using hj) (by omega)
    simpa using keyLt_asymm this

/-- What has been summed of a part of the coins. -/
def TotI (p out : List (ByteArray × Int)) : Prop :=
  out.Pairwise (fun a b => keyLt a.1 b.1 = true) ∧ (∀ s, (∃ y ∈ out, y.1 = s) ↔ ∃ x ∈ p, x.1 = s) ∧ ∀ y ∈ out, y.2 = totalP y.1 p
theorem totI_nil : TotI [] [] := ⟨List.Pairwise.nil, fun s => by simp, fun y hy => by simp at hy⟩
theorem totI_new {p out : List (ByteArray × Int)} {c : ByteArray × Int} (h : TotI p out) (hlt : ∀ y ∈ out, keyLt y.1 c.1 = true) : TotI (p ++ [c]) (out ++ [c]) := by
  obtain ⟨h1, h2, h3⟩ := h
  refine ⟨?_, fun s => ?_, fun y hy => ?_⟩
  · rw [List.pairwise_append]
    exact ⟨h1, by simp, fun a ha b hb => by simp at hb; subst hb; exact hlt a ha⟩
  · have := h2 s
    simp only [List.mem_append, List.mem_singleton, or_and_right, exists_or]
    rw [this]
  · rw [List.mem_append, List.mem_singleton] at hy
    rw [totalP_append, totalP_cons, totalP_nil]
    rcases hy with hy | rfl
    · rw [if_neg (fun e => by have := hlt y hy; rw [← e, keyLt_irrefl] at this; cases this), h3 y hy]; omega
    · rw [if_pos rfl, totalP_none (fun x hx e => by
        obtain ⟨y', hy', e'⟩ := (h2 y.1).2 ⟨x, hx, e⟩
        have := hlt y' hy'; rw [e', keyLt_irrefl] at this; cases this)]; omega
theorem totI_more {p ini : List (ByteArray × Int)} {s : ByteArray} {y z : Int} (h : TotI p (ini ++ [(s, y)])) : TotI (p ++ [(s, z)]) (ini ++ [(s, y + z)]) := by
  obtain ⟨h1, h2, h3⟩ := h
  rw [List.pairwise_append] at h1
  refine ⟨?_, fun t => ?_, fun x hx => ?_⟩
  · rw [List.pairwise_append]
    exact ⟨h1.1, by simp, fun a ha b hb => by simp at hb; subst hb; exact h1.2.2 a ha (s, y) (by simp)⟩
  · have := h2 t
    simp only [List.mem_append, List.mem_singleton, or_and_right, exists_or, exists_eq_left] at this ⊢
    rw [this]
    constructor
    · exact Or.inl
    · rintro (h | h)
      · exact h
      · exact this.1 (Or.inr h)
  · rw [List.mem_append, List.mem_singleton] at hx
    rw [totalP_append, totalP_cons, totalP_nil]
    rcases hx with hx | rfl
    · have := h1.2.2 x hx (s, y) (by simp)
      rw [if_neg (fun e => by dsimp at e this; rw [← e, keyLt_irrefl] at this; cases this), h3 x (by simp [hx])]; omega
    · have := h3 (s, y) (by simp)
      dsimp at this ⊢; rw [if_pos rfl, ← this]; omega
/-- The last one's name is not that of the next coin, which is not below: all are below it. -/
theorem totI_lt {p ini : List (ByteArray × Int)} {x c : ByteArray × Int} (h : TotI p (ini ++ [x])) (hp : ∀ y ∈ p, le y.1 c.1) (hne : x.1 ≠ c.1) : ∀ y ∈ ini ++ [x], keyLt y.1 c.1 = true := by
  obtain ⟨h1, h2, _⟩ := h
  obtain ⟨x', hx', e⟩ := (h2 x.1).1 ⟨x, by simp, rfl⟩
  have hlt : keyLt x.1 c.1 = true := key_lt_of_le_ne (e ▸ hp x' hx') hne
  intro y hy
  rw [List.mem_append, List.mem_singleton] at hy
  rcases hy with hy | rfl
  · rw [List.pairwise_append] at h1
    exact keyLt_trans (h1.2.2 y hy x (by simp)) hlt
  · exact hlt
theorem totI_end {l out : List (ByteArray × Int)} (h : TotI l out) : IsAdd l (out.filter fun x => x.2 ≠ 0) := by
  obtain ⟨h1, h2, h3⟩ := h
  refine ⟨out.map Prod.fst, ?_, fun s => ?_, ?_⟩
  · rw [List.pairwise_map]; exact h1
  · rw [← h2 s]; simp
  · unfold coalP
    rw [List.filterMap_map]
    clear h1 h2
    induction out with
    | nil => rfl
    | cons y out ih =>
      have hy := h3 y (by simp)
      rw [List.filter_cons, List.filterMap_cons, ih (fun x hx => h3 x (by simp [hx]))]
      simp only [Function.comp]
      rw [← hy]
      by_cases h0 : y.2 = 0 <;> simp [h0]
theorem totI_bound {p out : List (ByteArray × Int)} (h : TotI p out) (hb : ∀ x ∈ p, x.2.natAbs ≤ 1125899906842624) (hl : p.length ≤ 50) : ∀ y ∈ out, y.2.natAbs ≤ 56294995342131200 := by
  intro y hy
  rw [h.2.2 y hy]
  have := totalP_bound y.1 hb
  omega
theorem totI_len {p out : List (ByteArray × Int)} (h : TotI p out) : out.length ≤ p.length := by
  have h1 : (out.map Prod.fst).length ≤ (p.map Prod.fst).length := List.Nodup.length_le_of_subset (by
    have := h.1
    rw [← List.pairwise_map (f := Prod.fst) (R := fun a b => keyLt a b = true)] at this
    exact this.imp fun {a b} h e => by subst e; rw [keyLt_irrefl] at h; cases h) (fun s hs => by
    obtain ⟨y, hy, e⟩ := List.mem_map.1 hs
    obtain ⟨x, hx, e'⟩ := (h.2.1 s).1 ⟨y, hy, e⟩
    exact List.mem_map.2 ⟨x, hx, e'⟩)
  simpa using h1

/-- In order, without doubles: the sums are the coins themselves that are not 0. -/
theorem isAdd_self {l : List (ByteArray × Int)} (h : l.Pairwise fun a b => keyLt a.1 b.1 = true) : TotI l l := by
  refine ⟨h, fun s => Iff.rfl, fun y hy => ?_⟩
  induction l with
  | nil => simp at hy
  | cons x l ih =>
    rw [List.pairwise_cons] at h
    rw [totalP_cons]
    rw [List.mem_cons] at hy
    rcases hy with rfl | hy
    · rw [if_pos rfl, totalP_none (fun z hz e => by have := h.1 z hz; rw [e, keyLt_irrefl] at this; cases this)]; omega
    · rw [if_neg (fun e => by have := h.1 y hy; rw [e, keyLt_irrefl] at this; cases this), ← ih h.2 hy]; omega

/-- r has the sums of l, in order, none of them 0. -/
def SumsTo (l r : List (ByteArray × Int)) : Prop := r.Pairwise (fun a b => keyLt a.1 b.1 = true) ∧ (∀ y ∈ r, y.2 ≠ 0) ∧ ∀ s, totalP s r = totalP s l
theorem tot_get {r : List (ByteArray × Int)} (h : r.Pairwise fun a b => keyLt a.1 b.1 = true) {y : ByteArray × Int} (hy : y ∈ r) : totalP y.1 r = y.2 := ((isAdd_self h).2.2 y hy).symm
theorem tot_iff {r : List (ByteArray × Int)} (h : r.Pairwise fun a b => keyLt a.1 b.1 = true) (hz : ∀ y ∈ r, y.2 ≠ 0) (s : ByteArray) : totalP s r ≠ 0 ↔ ∃ y ∈ r, y.1 = s := by
  constructor
  · intro hn
    refine Classical.byContradiction fun k => hn (totalP_none fun x hx e => k ⟨x, hx, e⟩)
  · rintro ⟨y, hy, rfl⟩
    rw [tot_get h hy]; exact hz y hy
theorem tot_self {r : List (ByteArray × Int)} (h : r.Pairwise fun a b => keyLt a.1 b.1 = true) : r = (r.map Prod.fst).map fun s => (s, totalP s r) := by
  rw [List.map_map]
  have : ∀ y ∈ r, ((fun s => (s, totalP s r)) ∘ Prod.fst) y = id y := fun y hy => by simp only [Function.comp]; rw [tot_get h hy]; rfl
  rw [List.map_congr_left this, List.map_id]
theorem strict_nodup {ks : List ByteArray} (h : ks.Pairwise fun a b => keyLt a b = true) : ks.Nodup := h.imp fun {a b} h e => by subst e; rw [keyLt_irrefl] at h; cases h
theorem strict_keys {r : List (ByteArray × Int)} (h : r.Pairwise fun a b => keyLt a.1 b.1 = true) : (r.map Prod.fst).Pairwise fun a b => keyLt a b = true := List.pairwise_map.2 h
theorem keys_eq {r r' : List ByteArray} (h : r.Pairwise fun a b => keyLt a b = true) (h' : r'.Pairwise fun a b => keyLt a b = true) (hm : ∀ s, s ∈ r ↔ s ∈ r') : r = r' :=
  asc_unique (key := id) ((List.perm_ext_iff_of_nodup (strict_nodup h) (strict_nodup h')).2 hm) (h.imp fun h => le_of_lt h) h'
theorem totals_unique {r r' : List (ByteArray × Int)} (h : r.Pairwise fun a b => keyLt a.1 b.1 = true) (hz : ∀ y ∈ r, y.2 ≠ 0) (h' : r'.Pairwise fun a b => keyLt a.1 b.1 = true) (hz' : ∀ y ∈ r', y.2 ≠ 0)
    (ht : ∀ s, totalP s r = totalP s r') : r = r' := by
  rw [tot_self h, tot_self h', keys_eq (strict_keys h) (strict_keys h') (fun s => by
    have e1 := tot_iff h hz s
    have e2 := tot_iff h' hz' s
    rw [ht s] at e1
    simp only [List.mem_map]
    exact e1.symm.trans e2)]
  exact List.map_congr_left fun s _ => by rw [ht s]
theorem sums_unique {l l' r r' : List (ByteArray × Int)} (h : SumsTo l r) (h' : SumsTo l' r') (ht : ∀ s, totalP s l = totalP s l') : r = r' :=
  totals_unique h.1 h.2.1 h'.1 h'.2.1 fun s => by rw [h.2.2, h'.2.2, ht]
theorem coalP_cons (k : ByteArray) (ks : List ByteArray) (l : List (ByteArray × Int)) : coalP (k :: ks) l = (if totalP k l = 0 then [] else [(k, totalP k l)]) ++ coalP ks l := by
  unfold coalP
  rw [List.filterMap_cons]
  by_cases h : totalP k l = 0 <;> simp [h]
theorem coalP_mem {ks : List ByteArray} {l : List (ByteArray × Int)} {y : ByteArray × Int} (h : y ∈ coalP ks l) : y.1 ∈ ks ∧ y.2 = totalP y.1 l ∧ y.2 ≠ 0 := by
  unfold coalP at h
  obtain ⟨s, hs, he⟩ := List.mem_filterMap.1 h
  split at he
  · cases he
  · injection he with he; subst he; exact ⟨hs, rfl, by assumption⟩
theorem coalP_total {ks : List ByteArray} (l : List (ByteArray × Int)) (hk : ks.Nodup) (s : ByteArray) : (s ∈ ks → totalP s (coalP ks l) = totalP s l) ∧ (s ∉ ks → totalP s (coalP ks l) = 0) := by
  induction ks with
  | nil => exact ⟨fun h => absurd h (by simp), fun _ => rfl⟩
  | cons k ks ih =>
    rw [List.nodup_cons] at hk
    obtain ⟨i1, i2⟩ := ih hk.2
    rw [coalP_cons, totalP_append]
    by_cases e : s = k
    · subst e
      refine ⟨fun _ => ?_, fun h => absurd (by simp) h⟩
      rw [i2 hk.1]
      by_cases h0 : totalP s l = 0
      · rw [if_pos h0, totalP_nil, h0]; rfl
      · rw [if_neg h0, totalP_cons, if_pos rfl, totalP_nil]; omega
    · have h1 : totalP s (if totalP k l = 0 then [] else [(k, totalP k l)]) = 0 := by
        split
        · rfl
        · rw [totalP_cons, if_neg (fun h => e h.symm), totalP_nil]; rfl
      rw [h1]
      refine ⟨fun h => ?_, fun h => ?_⟩
      · rw [List.mem_cons] at h
        rw [i1 (h.resolve_left e)]; omega
      · rw [List.mem_cons] at h
        rw [i2 (fun k => h (Or.inr k))]; rfl
theorem isAdd_sums {l r : List (ByteArray × Int)} (h : IsAdd l r) : SumsTo l r := by
  obtain ⟨ks, h1, h2, rfl⟩ := h
  refine ⟨?_, fun y hy => (coalP_mem hy).2.2, fun s => ?_⟩
  · clear h2
    induction ks with
    | nil => exact List.Pairwise.nil
    | cons k ks ih =>
      rw [List.pairwise_cons] at h1
      rw [coalP_cons, List.pairwise_append]
      refine ⟨by split <;> simp, ih h1.2, fun a ha b hb => ?_⟩
      have hb' := (coalP_mem hb).1
      split at ha
      · simp at ha
      · simp at ha; subst ha; exact h1.1 _ hb'
  · by_cases hs : s ∈ ks
    · exact (coalP_total l (strict_nodup h1) s).1 hs
    · rw [(coalP_total l (strict_nodup h1) s).2 hs, totalP_none fun x hx e => hs ((h2 s).2 ⟨x, hx, e⟩)]
theorem isAdd_len {l r : List (ByteArray × Int)} (h : IsAdd l r) : r.length ≤ l.length := by
  obtain ⟨ks, h1, h2, rfl⟩ := h
  have e1 : (coalP ks l).length ≤ ks.length := List.length_filterMap_le _ _
  have e2 : ks.length ≤ (l.map Prod.fst).length := List.Nodup.length_le_of_subset (strict_nodup h1) (fun s hs => by
    obtain ⟨x, hx, e⟩ := (h2 s).1 hs
    exact List.mem_map.2 ⟨x, hx, e⟩)
  simp at e2; omega
theorem isAdd_size {l r : List (ByteArray × Int)} {m : Nat} (h : IsAdd l r) (hs : ∀ x ∈ l, x.1.size ≤ m) : ∀ y ∈ r, y.1.size ≤ m := by
  obtain ⟨ks, h1, h2, rfl⟩ := h
  intro y hy
  obtain ⟨x, hx, e⟩ := (h2 y.1).1 (coalP_mem hy).1
  rw [← e]; exact hs x hx
theorem isAdd_bound {l r : List (ByteArray × Int)} {m : Nat} (h : IsAdd l r) (hb : ∀ x ∈ l, x.2.natAbs ≤ m) : ∀ y ∈ r, y.2.natAbs ≤ l.length * m := by
  obtain ⟨ks, h1, h2, rfl⟩ := h
  intro y hy
  rw [(coalP_mem hy).2.1]
  exact totalP_bound' y.1 hb
theorem isAdd_sorted {l r : List (ByteArray × Int)} (h : IsAdd l r) : sortedB (r.map Prod.fst) = true := strict_sorted (isAdd_sums h).1
end Go.Proofs.YtlpdhpfjcfihoaaGreatDoor
