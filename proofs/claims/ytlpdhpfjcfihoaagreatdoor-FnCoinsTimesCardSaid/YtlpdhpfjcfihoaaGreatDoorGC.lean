/-
  The order of texts by their bytes: a strict total order. Plain.
  Plain laws of the insertion sort by exchanges of neighbours: its relation, and what it comes to.
  Lists of records of two cells in memory; lists of coins.
  Contracts of the loops that turn lists: impl.backCoins, laws.sumTo, laws.sumFrom.
  Contracts of the coins' sort.Interface: Len, Less, Swap of neighbours.
  Contracts of sort.Sort and its parts over coins: up to 12 coins; and coins in order.
  The contract of bits.Len, off the shelf.
  Contracts of pdqsort's parts at coins in order; pdqsort; sort.Sort; Coins.Sort.
  The contract of zzKeys at the maps of coins: the keys, in order.
  Contracts of the questions whether lists are sorted.
  Coins grouped by their denominations in a map of slices: what a look-up, an append and a store do.
-/
import Derived.Test.YtlpdhpfjcfihoaaGreatDoorGA
import Derived.Lib.SmallJoins
import Derived.WideShapes
import Derived.Lib.Strings
import Derived.Test.YtlpdhpfjcfihoaaGreatDoorGB
import Derived.Deep.LoopGhost
import Derived.Deep.AppendLies
import Derived.BigQuiet
import Derived.BigRegion
import Derived.Handy
import Derived.Test.YtlpdhpfjcfihoaaGreatDoorChecked
import Derived.Shelf.Small.Bits
import Derived.Tactics
import Derived.Maps.RangeWalk
namespace Go.Proofs.YtlpdhpfjcfihoaaGreatDoor
open Go Go.RowKit

def keyLt (a b : ByteArray) : Bool := Op.bytesLess a.toList b.toList
theorem bytesLess_lt : ∀ (x y : List UInt8), Op.bytesLess x y = decide (x < y)
  | [], [] => by simp [Op.bytesLess]
  | _ :: _, [] => by simp [Op.bytesLess]
  | [], _ :: _ => by simp [Op.bytesLess]
  | a :: x, b :: y => by
    rw [Op.bytesLess, bytesLess_lt x y]
    simp only [List.cons_lt_cons_iff]
    by_cases h1 : a < b <;> by_cases h2 : a = b <;> by_cases h3 : x < y <;> simp [h1, h2, h3]
theorem keyLt_iff (a b : ByteArray) : keyLt a b = true ↔ a.toList < b.toList := by unfold keyLt; rw [bytesLess_lt]; simp
theorem key_ext {a b : ByteArray} (h : a.toList = b.toList) : a = b := by
  rw [Lib.toList_data, Lib.toList_data] at h
  exact WideShapes.bytes_inj h
theorem keyLt_irrefl (a : ByteArray) : keyLt a a = false := by
  rw [Bool.eq_false_iff]; intro h
  exact List.lt_irrefl _ ((keyLt_iff _ _).1 h)
theorem keyLt_trans {a b c : ByteArray} (h : keyLt a b = true) (k : keyLt b c = true) : keyLt a c = true :=
  (keyLt_iff _ _).2 (List.lt_trans ((keyLt_iff _ _).1 h) ((keyLt_iff _ _).1 k))
theorem keyLt_asymm {a b : ByteArray} (h : keyLt a b = true) : keyLt b a = false := by
  rw [Bool.eq_false_iff]; intro k
  have := keyLt_trans h k
  rw [keyLt_irrefl] at this; cases this
theorem keyLt_tri {a b : ByteArray} (h : keyLt a b = false) (k : keyLt b a = false) : a = b := by
  refine key_ext ?_
  have h1 : ¬ a.toList < b.toList := fun e => by rw [(keyLt_iff _ _).2 e] at h; cases h
  have h2 : ¬ b.toList < a.toList := fun e => by rw [(keyLt_iff _ _).2 e] at k; cases k
  exact List.le_antisymm (List.not_lt.1 h2) (List.not_lt.1 h1)
theorem key_beq (a b : ByteArray) : (a.toList == b.toList) = decide (a = b) := by
  by_cases h : a = b
  · subst h; simp
  · have : a.toList ≠ b.toList := fun e => h (key_ext e)
    simp [h, this]
/-- Go's '>' on texts. -/
def keyGt (a b : ByteArray) : Bool := !(Op.bytesLess a.toList b.toList) && !(a.toList == b.toList)
theorem keyGt_eq (a b : ByteArray) : keyGt a b = keyLt b a := by
  unfold keyGt
  rw [key_beq, show Op.bytesLess a.toList b.toList = keyLt a b from rfl]
  by_cases e : a = b
  · subst e; simp [keyLt_irrefl]
  · cases h : keyLt a b
    · cases k : keyLt b a
      · exact absurd (keyLt_tri h k) e
      · simp [e]
    · simp [keyLt_asymm h]

/-- Names that do not fall. -/
def sortedB : List ByteArray → Bool
  | a :: b :: r => !keyLt b a && sortedB (b :: r)
  | _ => true
theorem sortedB_true {l : List ByteArray} (h : ∀ j, (hj : j + 1 < l.length) → keyLt l[j + 1] l[j] = false) : sortedB l = true := by
  induction l with
  | nil => rfl
  | cons a l ih =>
    cases l with
    | nil => rfl
    | cons b r =>
      have h0 := h 0 (by simp)
      simp only [List.getElem_cons_succ, List.getElem_cons_zero] at h0
      simp only [sortedB, h0, Bool.not_false, Bool.true_and]
      exact ih (fun j hj => h (j + 1) (Nat.succ_lt_succ hj))
theorem sortedB_get {l : List ByteArray} (h : sortedB l = true) : ∀ j, (hj : j + 1 < l.length) → keyLt l[j + 1] l[j] = false := by
  induction l with
  | nil => intro j hj; simp at hj
  | cons a l ih =>
    cases l with
    | nil => intro j hj; simp at hj
    | cons b r =>
      simp only [sortedB, Bool.and_eq_true, Bool.not_eq_true'] at h
      intro j hj
      cases j with
      | zero => simpa using h.1
      | succ j => exact ih h.2 j (Nat.lt_of_succ_lt_succ hj)
theorem sortedB_false {l : List ByteArray} (j : Nat) (hj : j + 1 < l.length) (h : keyLt l[j + 1] l[j] = true) : sortedB l = false := by
  rw [Bool.eq_false_iff]; intro k
  rw [sortedB_get k j hj] at h; cases h
end Go.Proofs.YtlpdhpfjcfihoaaGreatDoor

namespace Go.Proofs.YtlpdhpfjcfihoaaGreatDoor
open Go Go.RowKit

/-- Not above. -/
def le (a b : ByteArray) : Prop := keyLt b a = false
theorem le_refl (a : ByteArray) : le a a := keyLt_irrefl a
theorem le_trans {a b c : ByteArray} (h : le a b) (k : le b c) : le a c := by
  unfold le at *
  cases e : keyLt c a
  · rfl
  · exfalso
    cases f : keyLt a b
    · rw [keyLt_tri f h] at e; rw [e] at k; cases k
    · rw [keyLt_trans e f] at k; cases k
theorem le_of_lt {a b : ByteArray} (h : keyLt a b = true) : le a b := keyLt_asymm h
theorem le_antisymm {a b : ByteArray} (h : le a b) (k : le b a) : a = b := keyLt_tri k h
theorem key_lt_of_le_ne {a b : ByteArray} (h : le a b) (hn : a ≠ b) : keyLt a b = true := by
  cases e : keyLt a b
  · exact absurd (keyLt_tri e h) hn
  · rfl
theorem key_lt_of_lt_of_le {a b c : ByteArray} (h : keyLt a b = true) (k : le b c) : keyLt a c = true := by
  by_cases e : b = c
  · subst e; exact h
  · exact keyLt_trans h (key_lt_of_le_ne k e)

section
variable {α : Type}
/-- The neighbours at j and j + 1 exchanged. -/
def swp : List α → Nat → List α
  | a :: b :: t, 0 => b :: a :: t
  | a :: t, j + 1 => a :: swp t j
  | l, _ => l
theorem swp_perm : ∀ (l : List α) (j : Nat), (swp l j).Perm l
  | [], _ => by unfold swp; exact List.Perm.refl _
  | [a], 0 => by simp [swp]
  | [a], j + 1 => by unfold swp; exact List.Perm.cons _ (swp_perm [] j)
  | a :: b :: t, 0 => List.Perm.swap _ _ _
  | a :: b :: t, j + 1 => List.Perm.cons _ (swp_perm (b :: t) j)
theorem swp_length (l : List α) (j : Nat) : (swp l j).length = l.length := (swp_perm l j).length_eq
theorem swp_get? : ∀ (l : List α) (j : Nat), j + 1 < l.length → ∀ p, (swp l j)[p]? = if p = j then l[j + 1]? else if p = j + 1 then l[j]? else l[p]?
  | a :: b :: t, 0, _, p => by
    match p with
    | 0 => simp [swp]
    | 1 => simp [swp]
    | p + 2 => simp [swp]
  | a :: t, j + 1, h, p => by
    unfold swp
    match p with
    | 0 => simp
    | p + 1 =>
      simp only [List.getElem?_cons_succ]
      rw [swp_get? t j (by simpa using h) p]
      simp
  | [a], 0, h, _ => by simp at h
  | [], _, h, _ => by simp at h
theorem swp_get (l : List α) (j : Nat) (h : j + 1 < l.length) (p : Nat) (hp : p < l.length) :
    (swp l j)[p]'(by rw [swp_length]; exact hp) = if p = j then l[j + 1] else if p = j + 1 then l[j] else l[p] := by
  have := swp_get? l j h p
  rw [List.getElem?_eq_getElem (by rw [swp_length]; exact hp)] at this
  by_cases e : p = j
  · rw [if_pos e, List.getElem?_eq_getElem h] at this; rw [if_pos e]; exact Option.some.inj this
  · rw [if_neg e] at this; rw [if_neg e]
    by_cases f : p = j + 1
    · rw [if_pos f, List.getElem?_eq_getElem (by omega)] at this; rw [if_pos f]; exact Option.some.inj this
    · rw [if_neg f, List.getElem?_eq_getElem hp] at this; rw [if_neg f]; exact Option.some.inj this
theorem swp_map {β : Type} (f : α → β) : ∀ (l : List α) (j : Nat), (swp l j).map f = swp (l.map f) j
  | [], _ => by simp [swp]
  | [a], 0 => by simp [swp]
  | [a], j + 1 => by simp [swp]
  | a :: b :: t, 0 => by simp [swp]
  | a :: b :: t, j + 1 => by simp [swp, swp_map f (b :: t) j]
/-- The exchange as two stores. -/
theorem swp_set (l : List α) (j : Nat) (h : j + 1 < l.length) : swp l j = (l.set (j + 1) l[j]).set j l[j + 1] := by
  apply List.ext_getElem?
  intro p
  rw [swp_get? l j h p, List.getElem?_set, List.getElem?_set]
  by_cases e : j = p
  · subst e; simp [List.getElem?_eq_getElem h]; omega
  · by_cases f : j + 1 = p
    · subst f
      rw [if_neg (by omega), if_pos rfl, if_neg (by omega), if_pos rfl, if_pos h, List.getElem?_eq_getElem (by omega)]
    · rw [if_neg (by omega), if_neg (by omega), if_neg e, if_neg f]

variable (key : α → ByteArray)
/-- The first i are in order. -/
def InsO (L0 L : List α) (i : Nat) : Prop := L.Perm L0 ∧ ∀ p q, (hq : q < L.length) → (h : p < q) → q < i → le (key L[p]) (key L[q])
/-- The first i + 1 are in order but for the one at j, which is not above those behind it. -/
def InsI (L0 L : List α) (i j : Nat) : Prop := L.Perm L0 ∧ j ≤ i ∧ i < L.length ∧ (∀ p q, (hq : q < L.length) → (h : p < q) → q ≤ i → q ≠ j → p ≠ j → le (key L[p]) (key L[q])) ∧
  ∀ q, (hq : q < L.length) → (h : j < q) → q ≤ i → le (key L[j]) (key L[q])
variable {key}
theorem insO_start (L : List α) : InsO key L L 1 := ⟨List.Perm.refl _, fun p q _ h k => by omega⟩
theorem insO_in {L0 L : List α} {i : Nat} (h : InsO key L0 L i) (hi : i < L.length) : InsI key L0 L i i :=
  ⟨h.1, Nat.le_refl _, hi, fun p q hq hpq h1 h2 _ => h.2 p q hq hpq (by omega), fun q hq h1 h2 => by omega⟩
theorem insI_out0 {L0 L : List α} {i : Nat} (h : InsI key L0 L i 0) : InsO key L0 L (i + 1) :=
  ⟨h.1, fun p q hq hpq h1 => by
    by_cases e : p = 0
    · subst e; exact h.2.2.2.2 q hq hpq (by omega)
    · exact h.2.2.2.1 p q hq hpq (by omega) (by omega) e⟩
theorem insI_out {L0 L : List α} {i j : Nat} (h : InsI key L0 L i (j + 1)) (hj : j + 1 < L.length) (hle : keyLt (key L[j + 1]) (key L[j]) = false) : InsO key L0 L (i + 1) :=
  ⟨h.1, fun p q hq hpq h1 => by
    obtain ⟨_, hji, hi, ha, hb⟩ := h
    by_cases e : p = j + 1
    · subst e; exact hb q hq hpq (by omega)
    · by_cases f : q = j + 1
      · subst f
        by_cases g : p = j
        · subst g; exact hle
        · exact le_trans (ha p j (by omega) (by omega) (by omega) (by omega) e) hle
      · exact ha p q hq hpq (by omega) f e⟩
theorem insI_swp {L0 L : List α} {i j : Nat} (h : InsI key L0 L i (j + 1)) (hj : j + 1 < L.length) (hlt : keyLt (key L[j + 1]) (key L[j]) = true) : InsI key L0 (swp L j) i j := by
  obtain ⟨hP, hji, hi, ha, hb⟩ := h
  have hl := swp_length L j
  refine ⟨(swp_perm L j).trans hP, by omega, by omega, fun p q hq hpq h1 h2 h3 => ?_, fun q hq h1 h2 => ?_⟩
  · rw [swp_get L j hj p (by omega), swp_get L j hj q (by omega), if_neg h3, if_neg h2]
    by_cases e : p = j + 1
    · rw [if_pos e, if_neg (by omega)]
      exact ha j q (by omega) (by omega) h1 (by omega) (by omega)
    · rw [if_neg e]
      by_cases f : q = j + 1
      · rw [if_pos f]; exact ha p j (by omega) (by omega) (by omega) (by omega) e
      · rw [if_neg f]; exact ha p q (by omega) hpq h1 f e
  · rw [swp_get L j hj q (by omega), swp_get L j hj j (by omega), if_pos rfl, if_neg (by omega)]
    by_cases f : q = j + 1
    · rw [if_pos f]; exact le_of_lt hlt
    · rw [if_neg f]; exact hb q (by omega) (by omega) h2
/-- In order: each not above the next ones. -/
def Asc (L : List α) : Prop := L.Pairwise fun a b => le (key a) (key b)
theorem insO_end {L0 L : List α} {i : Nat} (h : InsO key L0 L i) (hi : L.length ≤ i) : L.Perm L0 ∧ L.Pairwise fun a b => le (key a) (key b) :=
  ⟨h.1, List.pairwise_iff_getElem.2 fun p q hp hq hpq => h.2 p q hq hpq (by omega)⟩
/-- In order is one way only, where no key stands twice. -/
theorem asc_unique {L M : List α} (hP : L.Perm M) (hL : L.Pairwise fun a b => le (key a) (key b)) (hM : M.Pairwise fun a b => keyLt (key a) (key b) = true) : L = M := by
  have hd : ∀ a b, a ∈ L → b ∈ M → key a = key b → a = b := by
    intro a b ha hb e
    have ha' := hP.mem_iff.1 ha
    obtain ⟨p, hp, rfl⟩ := List.getElem_of_mem ha'
    obtain ⟨q, hq, rfl⟩ := List.getElem_of_mem hb
    have hM' := List.pairwise_iff_getElem.1 hM
    rcases Nat.lt_trichotomy p q with h | h | h
    · have := hM' p q hp hq h; rw [e, keyLt_irrefl] at this; cases this
    · subst h; rfl
    · have := hM' q p hq hp h; rw [e, keyLt_irrefl] at this; cases this
  exact List.Perm.eq_of_pairwise (le := fun a b => le (key a) (key b)) (fun a b ha hb h1 h2 => hd a b ha hb (le_antisymm h1 h2)) hL (hM.imp fun h => le_of_lt h) hP
end
end Go.Proofs.YtlpdhpfjcfihoaaGreatDoor

namespace Go.Proofs.YtlpdhpfjcfihoaaGreatDoor
open Go Go.RowKit

/-- The cells of records of two. -/
def flat2 (l : List (Value × Value)) : List Value := l.flatMap fun p => [p.1, p.2]
theorem flat2_length (l : List (Value × Value)) : (flat2 l).length = l.length * 2 := by
  unfold flat2
  induction l with
  | nil => rfl
  | cons a l ih => simp only [List.flatMap_cons, List.length_append, ih, List.length_cons, List.length_nil]; omega
theorem flat2_append (l m : List (Value × Value)) : flat2 (l ++ m) = flat2 l ++ flat2 m := by simp [flat2]
theorem flat2_get (l : List (Value × Value)) (j : Nat) (h : j < l.length) : (flat2 l)[j * 2]? = some l[j].1 ∧ (flat2 l)[j * 2 + 1]? = some l[j].2 := by
  induction l generalizing j with
  | nil => simp at h
  | cons a l ih =>
    cases j with
    | zero => exact ⟨rfl, rfl⟩
    | succ j =>
      have := ih j (by simpa using h)
      refine ⟨?_, ?_⟩
      · rw [show (j + 1) * 2 = j * 2 + 1 + 1 by omega]; simpa [flat2] using this.1
      · rw [show (j + 1) * 2 + 1 = j * 2 + 1 + 1 + 1 by omega]; simpa [flat2] using this.2

/-- A slice value whose records are ps. -/
def RecAt (w : World) (A : Option Addr) (ps : List (Value × Value)) : Prop :=
  ps ≠ [] → ∃ g o, A = some ⟨g, o, none⟩ ∧ ∀ j (h : j < ps.length), w.cell? ⟨g, o + j * 2, none⟩ = some ps[j].1 ∧ w.cell? ⟨g, o + j * 2 + 1, none⟩ = some ps[j].2
theorem RecAt.ext {w w' : World} {A : Option Addr} {ps : List (Value × Value)} (h : RecAt w A ps) (e : Ext w w') : RecAt w' A ps := fun hn => by
  obtain ⟨g, o, ha, hc⟩ := h hn
  exact ⟨g, o, ha, fun j hj => ⟨e.cell' (hc j hj).1, e.cell' (hc j hj).2⟩⟩
theorem RecAt.nil (w : World) (A : Option Addr) : RecAt w A [] := fun h => absurd rfl h
theorem recAt_of_owns {w : World} {base : Nat} {E : TypeId} {A : Option Addr} {c : Nat} {ps : List (Value × Value)} {n : Nat} (hl : ps.length = n) (h : w.ownsRow base E 2 (.slice A n c) n (flat2 ps)) : RecAt w A ps := fun hn => by
  have hp : 0 < ps.length := List.length_pos_iff.2 hn
  obtain ⟨g, cap, hv, _, _⟩ := h.form (by omega)
  have hA : A = some ⟨g, 0, none⟩ := by injection hv
  subst hA
  have hc := h.cells (g := g) rfl
  refine ⟨g, 0, rfl, fun j hj => ?_⟩
  have h2 := flat2_get ps j hj
  have c1 := hc (j * 2) _ h2.1
  have c2 := hc (j * 2 + 1) _ h2.2
  refine ⟨?_, ?_⟩
  · simp only [Addr.add] at c1; split at c1 <;> simp_all
  · simp only [Addr.add] at c2; split at c2 <;> simp_all

/-- A coin as it lies in memory: its text, the block of its amount, the amount. -/
structure Co where
  s : ByteArray
  b : Nat
  z : Int
def Co.pair (c : Co) : Value × Value := (.string c.s, .pointer (some ⟨c.b, 0, none⟩))
def Co.val (c : Co) : ByteArray × Int := (c.s, c.z)
def plain (x : ByteArray × Int) : Value × Value := (.string x.1, .int .i64 x.2)
def PlainAt (w : World) (A : Option Addr) (l : List (ByteArray × Int)) : Prop := RecAt w A (l.map plain)
/-- The amounts of coins lie in memory. -/
def Bigs (w : World) (cs : List Co) : Prop := ∀ c ∈ cs, BigAt w c.b c.z
def CoinsAt (w : World) (A : Option Addr) (cs : List Co) : Prop := RecAt w A (cs.map Co.pair) ∧ Bigs w cs
theorem PlainAt.ext {w w' : World} {A : Option Addr} {l : List (ByteArray × Int)} (h : PlainAt w A l) (e : Ext w w') : PlainAt w' A l := RecAt.ext h e
theorem Bigs.ext {w w' : World} {cs : List Co} (h : Bigs w cs) (e : Ext w w') : Bigs w' cs := fun c hc => (h c hc).ext e
theorem CoinsAt.ext {w w' : World} {A : Option Addr} {cs : List Co} (h : CoinsAt w A cs) (e : Ext w w') : CoinsAt w' A cs := ⟨h.1.ext e, h.2.ext e⟩

/-- Coins in a row of the call's own. -/
def CoinsOwn (w : World) (base : Nat) (v : Value) (cs : List Co) : Prop := w.ownsRow base 134 2 v cs.length (flat2 (cs.map Co.pair)) ∧ Bigs w cs
theorem CoinsOwn.nil (w : World) (base : Nat) : CoinsOwn w base (.slice none 0 0) [] := ⟨World.ownsRow_nil _ _ _ _, fun _ h => by cases h⟩
theorem BigAt.grown {w w' : World} {b : Nat} {z : Int} {base n : Nat} {E : TypeId} {k : Nat} {v : Value} {xs : List Value} (h : BigAt w b z) (ho : w.ownsRow base E k v n xs) (hg : w.grownBy w' v.ownBlock) (h1 : 172 ≠ E := by decide) (h2 : 152 ≠ E := by decide) : BigAt w' b z := by
  rcases ho.2 with ⟨rfl, _⟩ | ⟨g, cap, cur, rfl, _, hh, _⟩
  · exact h.ext ⟨hg.os, hg.tape, hg.output, hg.size, fun i hi => hg.block i hi (by simp [Value.ownBlock])⟩
  · have hb : Blk w g E cur.toList := hh
    exact h.only (g := g) hg hb h1 h2

theorem owns_ext {w w' : World} {base n k : Nat} {E : TypeId} {v : Value} {xs : List Value} (h : w.ownsRow base E k v n xs) (e : Ext w w') : w'.ownsRow base E k v n xs := by
  refine ⟨h.1, ?_⟩
  rcases h.2 with h2 | ⟨g, cap, cur, hv, hg, hh, r⟩
  · exact Or.inl h2
  · exact Or.inr ⟨g, cap, cur, hv, hg, (e.block g (Array.getElem?_eq_some_iff.1 hh).1).trans hh, r⟩
theorem CoinsOwn.ext {w w' : World} {base : Nat} {v : Value} {cs : List Co} (h : CoinsOwn w base v cs) (e : Ext w w') : CoinsOwn w' base v cs := ⟨owns_ext h.1 e, h.2.ext e⟩
theorem ext_grown {w w1 w2 : World} {n k : Nat} {E : TypeId} {v : Value} {xs : List Value} (e : Ext w w1) (h : w1.ownsRow w.heap.size E k v n xs) (hg : w1.grownBy w2 v.ownBlock) : Ext w w2 :=
  Below.grown e hg e.size (fun g hv => (h.lt g hv).1)
/-- One coin more in a row of the call's own. -/
theorem coins_push {w w1 w2 : World} {v v' : Value} {cs : List Co} {s : ByteArray} {b : Nat} {z : Int} (h : CoinsOwn w1 w.heap.size v cs) (hB : BigAt w1 b z) (e : Ext w w1)
    (hown : w2.ownsRow w.heap.size 134 2 v' (cs.length + 1) (flat2 (cs.map Co.pair) ++ [.string s, .pointer (some ⟨b, 0, none⟩)])) (hg : w1.grownBy w2 v.ownBlock) :
    CoinsOwn w2 w.heap.size v' (cs ++ [⟨s, b, z⟩]) ∧ Ext w w2 := by
  refine ⟨⟨?_, fun c hc => ?_⟩, ext_grown e h.1 hg⟩
  · rw [List.length_append, List.map_append, flat2_append]; exact hown
  · rcases List.mem_append.1 hc with hc | hc
    · exact (h.2 c hc).grown h.1 hg
    · simp at hc; subst hc; exact hB.grown h.1 hg
theorem two_one (a b : Value) (ha : a.oneCell' = true) (hb : b.oneCell' = true) : ∀ u ∈ [a, b], u.oneCell' = true := by
  intro u hu
  simp at hu
  rcases hu with rfl | rfl <;> assumption

theorem infoCoin : (Tryz.prog.info? 134).map (fun i => (i.zero, i.size, i.bytes)) = some (some (.agg #[.string ByteArray.empty, .pointer none]), 2, 24) := by kernel_rfl
theorem infoPlan : (Tryz.prog.info? 31).map (fun i => (i.zero, i.size, i.bytes)) = some (some (.agg #[.string ByteArray.empty, .int .i64 0]), 2, 24) := by kernel_rfl

/-- Coins handed back. -/
def RetCoins (l : List (ByteArray × Int)) (w : World) (e : Ending) (w' : World) : Prop :=
  ∃ v cs, e = .returned v ∧ cs.map Co.val = l ∧ CoinsOwn w' w.heap.size v cs ∧ Ext w w'

set_option maxRecDepth 100000 in
set_option maxHeartbeats 400000 in
theorem iCoins (A : Option Addr) (n c : Nat) (l : List (ByteArray × Int)) (w : World) (hl : l.length = n) (hn : n ≤ 1000000) (h : PlainAt w A l) (hz : ∀ x ∈ l, -maxI ≤ x.2 ∧ x.2 ≤ maxI) :
    Calls Tryz.prog 65 #[.slice A n c] w (RetCoins l w) := by
  obtain ⟨i0, hi, hz0, hz1, hz2⟩ := info_parts infoCoin
  have HL := Lib.hid hl; have HP := Lib.hid h; have HZ := Lib.hid hz
  clear hl h hz
  go_enter Tryz.func65, Tryz.ntmps65
  go_wp2
  go_loopw [3, 8] (fun v i wr => ∃ (k : Nat) (cs : List Co), k ≤ n ∧ i = .int .i64 k ∧ cs.length = k ∧ cs.map Co.val = l.take k ∧ CoinsOwn wr w.heap.size v cs ∧ Ext w wr) (fun _ i _ => n - (intOf i).toNat)
  case atStart => exact ⟨0, [], Nat.zero_le _, rfl, rfl, rfl, CoinsOwn.nil _ _, Ext.refl _⟩
  case round =>
    obtain ⟨k, cs, hk, rfl, hcl, hcv, hown, hE⟩ := hrel
    have HC := Lib.hid hcl; have HV := Lib.hid hcv; have HO := Lib.hid hown; have HE := Lib.hid hE
    clear hcl hcv hown hE
    by_cases hlt : k < n
    · have hkl : k < l.length := by rw [HL.out]; exact hlt
      obtain ⟨s, hs⟩ : ∃ s, s = l[k].1 := ⟨_, rfl⟩
      obtain ⟨z, hzz⟩ : ∃ z, z = l[k].2 := ⟨_, rfl⟩
      obtain ⟨g, o, hA, hc⟩ := HP.out (by intro e; have := congrArg List.length e; simp at this; rw [this] at hkl; simp at hkl)
      subst hA
      have hck := hc k (by simpa using hkl)
      have cs0 : wr.cell? ⟨g, o + k * 2, none⟩ = some (.string s) := HE.out.cell' (by rw [hck.1, hs]; simp [plain])
      have cs1 : wr.cell? ⟨g, o + k * 2 + 1, none⟩ = some (.int .i64 z) := HE.out.cell' (by rw [hck.2, hzz]; simp [plain])
      have HS := Lib.hid hs; have HZZ := Lib.hid hzz; clear hs hzz hck hc
      go_wp2_with (first | (go_at_call 109; refine (iCoin s z _ (by rw [HZZ.out]; exact (HZ.out _ (List.getElem_mem _)).1) (by rw [HZZ.out]; exact (HZ.out _ (List.getElem_mem _)).2)).mono ?_; rintro e w1 ⟨b, rfl, hB, hE1⟩; have HB := Lib.hid hB; have HE1 := Lib.hid ((ext1 _ _).trans' hE1); clear hB hE1) | (at_builtin; refine wpList_append_own_at _ rfl (.tmp 12) (.tmp 15) 92 rfl w.heap.size 134 i0 _ 2 24 Tryz.underlying92 hi hz0 hz1 hz2 rfl (by decide) u3 cs.length (flat2 (cs.map Co.pair)) rfl (owns_ext (HO.out.ext HE1.out).1 (ext1 _ _)) ⟨w1.heap.size, 0, none⟩ 1 1 [.string s, .pointer (some ⟨b, 0, none⟩)] rfl rfl (cell_two_new _ _ _ _) (two_one _ _ rfl rfl) (by rw [HC.out]; unfold maxLen; omega) (by rw [HC.out]; omega) (by have := HE.out.size; have := HE1.out.size; simp; omega) ?_; intro v' w2 hown hgrow _ _; have R := Lib.hid (coins_push ((HO.out.ext HE1.out).ext (ext1 _ (coinBox s b))) (HB.out.ext (ext1 _ _)) ((HE.out.trans' HE1.out).trans' (ext1 _ _)) hown hgrow); clear hown hgrow))
      go_roundw
      case rel =>
        refine ⟨k + 1, cs ++ [⟨s, b, z⟩], by omega, by go_num, by simp [HC.out], ?_, R.out.1, R.out.2⟩
        rw [List.map_append, HV.out, List.take_succ_eq_append_getElem hkl, HS.out, HZZ.out]; rfl
      case measure => simp [intOf]; omega
    · obtain rfl : k = n := by omega
      go_wp2
      go_ret
      exact ⟨_, cs, rfl, by rw [HV.out, List.take_of_length_le (by rw [HL.out]; exact Nat.le_refl _)], HO.out, HE.out⟩
end Go.Proofs.YtlpdhpfjcfihoaaGreatDoor

namespace Go.Proofs.YtlpdhpfjcfihoaaGreatDoor
open Go Go.RowKit

theorem infoSum : (Tryz.prog.info? 30).map (fun i => (i.zero, i.size, i.bytes)) = some (some (.agg #[.string ByteArray.empty, .int .i64 0]), 2, 24) := by kernel_rfl
def PlainOwn (w : World) (base : Nat) (E : TypeId) (v : Value) (l : List (ByteArray × Int)) : Prop := w.ownsRow base E 2 v l.length (flat2 (l.map plain))
theorem PlainOwn.nil (w : World) (base : Nat) (E : TypeId) : PlainOwn w base E (.slice none 0 0) [] := World.ownsRow_nil _ _ _ _
theorem PlainOwn.ext {w w' : World} {base : Nat} {E : TypeId} {v : Value} {l : List (ByteArray × Int)} (h : PlainOwn w base E v l) (e : Ext w w') : PlainOwn w' base E v l := owns_ext h e
theorem plain_push {w w1 w2 : World} {E : TypeId} {v v' : Value} {l : List (ByteArray × Int)} {s : ByteArray} {z : Int} (h : PlainOwn w1 w.heap.size E v l) (e : Ext w w1)
    (hown : w2.ownsRow w.heap.size E 2 v' (l.length + 1) (flat2 (l.map plain) ++ [.string s, .int .i64 z])) (hg : w1.grownBy w2 v.ownBlock) :
    PlainOwn w2 w.heap.size E v' (l ++ [(s, z)]) ∧ Ext w w2 := by
  refine ⟨?_, ext_grown e h hg⟩
  unfold PlainOwn
  rw [List.length_append, List.map_append, flat2_append]; exact hown
/-- Plain coins handed back. -/
def RetPlain (E : TypeId) (l : List (ByteArray × Int)) (w : World) (e : Ending) (w' : World) : Prop := ∃ v, e = .returned v ∧ PlainOwn w' w.heap.size E v l ∧ Ext w w'

theorem two_new1 (w : World) (o : Obj) (a b : Value) (t : TypeId) : ∀ j u, [a, b][j]? = some u → ((w.alloc o).alloc (.cells #[a, b] t)).cell? ((⟨w.heap.size + 1, 0, none⟩ : Addr).add j) = some u := by
  have := cell_two_new (w.alloc o) a b t
  rwa [show (w.alloc o).heap.size = w.heap.size + 1 by simp] at this

set_option maxRecDepth 100000 in
set_option maxHeartbeats 400000 in
theorem lSumTo (A : Option Addr) (n c : Nat) (l : List (ByteArray × Int)) (w : World) (hl : l.length = n) (hn : n ≤ 1000000) (h : PlainAt w A l) :
    Calls Tryz.prog 17 #[.slice A n c] w (RetPlain 31 l w) := by
  obtain ⟨i0, hi, hz0, hz1, hz2⟩ := info_parts infoPlan
  have HL := Lib.hid hl; have HP := Lib.hid h
  clear hl h
  go_enter Tryz.func17, Tryz.ntmps17
  go_wp2
  go_loopw [3, 8] (fun v i wr => ∃ (k : Nat) (cs : List (ByteArray × Int)), k ≤ n ∧ i = .int .i64 k ∧ cs.length = k ∧ cs = l.take k ∧ PlainOwn wr w.heap.size 31 v cs ∧ Ext w wr) (fun _ i _ => n - (intOf i).toNat)
  case atStart => exact ⟨0, [], Nat.zero_le _, rfl, rfl, rfl, PlainOwn.nil _ _ _, Ext.refl _⟩
  case round =>
    obtain ⟨k, cs, hk, rfl, hcl, hcv, hown, hE⟩ := hrel
    have HC := Lib.hid hcl; have HV := Lib.hid hcv; have HO := Lib.hid hown; have HE := Lib.hid hE
    clear hcl hcv hown hE
    by_cases hlt : k < n
    · have hkl : k < l.length := by rw [HL.out]; exact hlt
      obtain ⟨s, hs⟩ : ∃ s, s = l[k].1 := ⟨_, rfl⟩
      obtain ⟨z, hzz⟩ : ∃ z, z = l[k].2 := ⟨_, rfl⟩
      obtain ⟨g, o, hA, hc⟩ := HP.out (by intro e; have := congrArg List.length e; simp at this; rw [this] at hkl; simp at hkl)
      subst hA
      have hck := hc k (by simpa using hkl)
      have cs0 : wr.cell? ⟨g, o + k * 2, none⟩ = some (.string s) := HE.out.cell' (by rw [hck.1, hs]; simp [plain])
      have cs1 : wr.cell? ⟨g, o + k * 2 + 1, none⟩ = some (.int .i64 z) := HE.out.cell' (by rw [hck.2, hzz]; simp [plain])
      have HS := Lib.hid hs; have HZZ := Lib.hid hzz; clear hs hzz hck hc
      go_wp2_with (first | (at_builtin; refine wpList_append_own_at _ rfl (.tmp 12) (.tmp 14) 24 rfl w.heap.size 31 i0 _ 2 24 Tryz.underlying24 hi hz0 hz1 hz2 rfl (by decide) u3 cs.length (flat2 (cs.map plain)) rfl (owns_ext HO.out (ext2 _ _ _)) ⟨wr.heap.size + 1, 0, none⟩ 1 1 [.string s, .int .i64 z] rfl rfl (two_new1 _ _ _ _ _) (two_one _ _ rfl rfl) (by rw [HC.out]; unfold maxLen; omega) (by rw [HC.out]; omega) (by have := HE.out.size; simp; omega) ?_; intro v' w2 hown hgrow _ _; have R := Lib.hid (plain_push (HO.out.ext (ext2 _ (.cells #[.string s, .int .i64 z] 30) (.cells #[.string s, .int .i64 z] 31))) (HE.out.trans' (ext2 _ _ _)) hown hgrow); clear hown hgrow))
      go_roundw
      case rel =>
        refine ⟨k + 1, cs ++ [(s, z)], by omega, by go_num, by simp [HC.out], ?_, R.out.1, R.out.2⟩
        rw [HV.out, List.take_succ_eq_append_getElem hkl, HS.out, HZZ.out]
      case measure => simp [intOf]; omega
    · obtain rfl : k = n := by omega
      go_wp2
      go_ret
      have hv : cs = l := by rw [HV.out, List.take_of_length_le (by rw [HL.out]; exact Nat.le_refl _)]
      exact ⟨_, rfl, hv ▸ HO.out, HE.out⟩

set_option maxRecDepth 100000 in
set_option maxHeartbeats 400000 in
theorem lSumFrom (A : Option Addr) (n c : Nat) (l : List (ByteArray × Int)) (w : World) (hl : l.length = n) (hn : n ≤ 1000000) (h : PlainAt w A l) :
    Calls Tryz.prog 21 #[.slice A n c] w (RetPlain 30 l w) := by
  obtain ⟨i0, hi, hz0, hz1, hz2⟩ := info_parts infoSum
  have HL := Lib.hid hl; have HP := Lib.hid h
  clear hl h
  go_enter Tryz.func21, Tryz.ntmps21
  go_wp2
  go_loopw [3, 8] (fun v i wr => ∃ (k : Nat) (cs : List (ByteArray × Int)), k ≤ n ∧ i = .int .i64 k ∧ cs.length = k ∧ cs = l.take k ∧ PlainOwn wr w.heap.size 30 v cs ∧ Ext w wr) (fun _ i _ => n - (intOf i).toNat)
  case atStart => exact ⟨0, [], Nat.zero_le _, rfl, rfl, rfl, PlainOwn.nil _ _ _, Ext.refl _⟩
  case round =>
    obtain ⟨k, cs, hk, rfl, hcl, hcv, hown, hE⟩ := hrel
    have HC := Lib.hid hcl; have HV := Lib.hid hcv; have HO := Lib.hid hown; have HE := Lib.hid hE
    clear hcl hcv hown hE
    by_cases hlt : k < n
    · have hkl : k < l.length := by rw [HL.out]; exact hlt
      obtain ⟨s, hs⟩ : ∃ s, s = l[k].1 := ⟨_, rfl⟩
      obtain ⟨z, hzz⟩ : ∃ z, z = l[k].2 := ⟨_, rfl⟩
      obtain ⟨g, o, hA, hc⟩ := HP.out (by intro e; have := congrArg List.length e; simp at this; rw [this] at hkl; simp at hkl)
      subst hA
      have hck := hc k (by simpa using hkl)
      have cs0 : wr.cell? ⟨g, o + k * 2, none⟩ = some (.string s) := HE.out.cell' (by rw [hck.1, hs]; simp [plain])
      have cs1 : wr.cell? ⟨g, o + k * 2 + 1, none⟩ = some (.int .i64 z) := HE.out.cell' (by rw [hck.2, hzz]; simp [plain])
      have HS := Lib.hid hs; have HZZ := Lib.hid hzz; clear hs hzz hck hc
      go_wp2_with (first | (at_builtin; refine wpList_append_own_at _ rfl (.tmp 12) (.tmp 14) 22 rfl w.heap.size 30 i0 _ 2 24 Tryz.underlying22 hi hz0 hz1 hz2 rfl (by decide) u3 cs.length (flat2 (cs.map plain)) rfl (owns_ext HO.out (ext2 _ _ _)) ⟨wr.heap.size + 1, 0, none⟩ 1 1 [.string s, .int .i64 z] rfl rfl (two_new1 _ _ _ _ _) (two_one _ _ rfl rfl) (by rw [HC.out]; unfold maxLen; omega) (by rw [HC.out]; omega) (by have := HE.out.size; simp; omega) ?_; intro v' w2 hown hgrow _ _; have R := Lib.hid (plain_push (HO.out.ext (ext2 _ (.cells #[.string s, .int .i64 z] 31) (.cells #[.string s, .int .i64 z] 30))) (HE.out.trans' (ext2 _ _ _)) hown hgrow); clear hown hgrow))
      go_roundw
      case rel =>
        refine ⟨k + 1, cs ++ [(s, z)], by omega, by go_num, by simp [HC.out], ?_, R.out.1, R.out.2⟩
        rw [HV.out, List.take_succ_eq_append_getElem hkl, HS.out, HZZ.out]
      case measure => simp [intOf]; omega
    · obtain rfl : k = n := by omega
      go_wp2
      go_ret
      have hv : cs = l := by rw [HV.out, List.take_of_length_le (by rw [HL.out]; exact Nat.le_refl _)]
      exact ⟨_, rfl, hv ▸ HO.out, HE.out⟩

/-- Plain coins and true handed back. -/
def RetBack (l : List (ByteArray × Int)) (w : World) (e : Ending) (w' : World) : Prop := ∃ v, e = .returned (.tuple #[v, .bool true]) ∧ PlainOwn w' w.heap.size 31 v l ∧ Ext w w'

set_option maxRecDepth 100000 in
set_option maxHeartbeats 400000 in
theorem iBackCoins (A : Option Addr) (n c : Nat) (l : List Co) (w : World) (hl : l.length = n) (hn : n ≤ 1000000) (h : CoinsAt w A l) (hz : ∀ x ∈ l, -maxI ≤ x.z ∧ x.z ≤ maxI) :
    Calls Tryz.prog 68 #[.slice A n c] w (RetBack (l.map Co.val) w) := by
  obtain ⟨i0, hi, hz0, hz1, hz2⟩ := info_parts infoPlan
  have HL := Lib.hid hl; have HP := Lib.hid h; have HZ := Lib.hid hz
  clear hl h hz
  go_enter Tryz.func68, Tryz.ntmps68
  go_wp2
  go_loopw [4, 11] (fun v i wr => ∃ (k : Nat) (cs : List (ByteArray × Int)), k ≤ n ∧ i = .int .i64 k ∧ cs.length = k ∧ cs = (l.map Co.val).take k ∧ PlainOwn wr w.heap.size 31 v cs ∧ Ext w wr) (fun _ i _ => n - (intOf i).toNat)
  case atStart => exact ⟨0, [], Nat.zero_le _, rfl, rfl, rfl, PlainOwn.nil _ _ _, Ext.refl _⟩
  case round =>
    obtain ⟨k, cs, hk, rfl, hcl, hcv, hown, hE⟩ := hrel
    have HC := Lib.hid hcl; have HV := Lib.hid hcv; have HO := Lib.hid hown; have HE := Lib.hid hE
    clear hcl hcv hown hE
    by_cases hlt : k < n
    · have hkl : k < l.length := by rw [HL.out]; exact hlt
      obtain ⟨s, hs⟩ : ∃ s, s = l[k].s := ⟨_, rfl⟩
      obtain ⟨b, hb⟩ : ∃ b, b = l[k].b := ⟨_, rfl⟩
      obtain ⟨z, hzz⟩ : ∃ z, z = l[k].z := ⟨_, rfl⟩
      obtain ⟨g, o, hA, hc⟩ := HP.out.1 (by intro e; have := congrArg List.length e; simp at this; rw [this] at hkl; simp at hkl)
      subst hA
      have hck := hc k (by simpa using hkl)
      have cs0 : wr.cell? ⟨g, o + k * 2, none⟩ = some (.string s) := HE.out.cell' (by rw [hck.1, hs]; simp [Co.pair])
      have cs1 : wr.cell? ⟨g, o + k * 2 + 1, none⟩ = some (.pointer (some ⟨b, 0, none⟩)) := HE.out.cell' (by rw [hck.2, hb]; simp [Co.pair])
      have HB := Lib.hid (show BigAt wr b z by rw [hb, hzz]; exact (HP.out.2 _ (List.getElem_mem hkl)).ext HE.out)
      have hz0' : -maxI ≤ z := by rw [hzz]; exact (HZ.out _ (List.getElem_mem _)).1
      have hz1' : z ≤ maxI := by rw [hzz]; exact (HZ.out _ (List.getElem_mem _)).2
      have HS := Lib.hid hs; have HZZ := Lib.hid hzz; clear hs hzz hck hc hb
      go_wp2_with (first | (go_at_call 115; refine (iBackCoin s b z _ (by exact HB.out.ext (ext1 _ _)) hz0' hz1').mono ?_; rintro e w1 ⟨rfl, hE1⟩; have HE1 := Lib.hid ((ext1 _ _).trans' hE1); clear hE1) | (at_builtin; refine wpList_append_own_at _ rfl (.tmp 22) (.tmp 24) 24 rfl w.heap.size 31 i0 _ 2 24 Tryz.underlying24 hi hz0 hz1 hz2 rfl (by decide) u4 cs.length (flat2 (cs.map plain)) rfl (owns_ext (owns_ext HO.out HE1.out) (ext2 _ _ _)) ⟨w1.heap.size + 1, 0, none⟩ 1 1 [.string s, .int .i64 z] rfl rfl (two_new1 _ _ _ _ _) (two_one _ _ rfl rfl) (by rw [HC.out]; unfold maxLen; omega) (by rw [HC.out]; omega) (by have := HE.out.size; have := HE1.out.size; simp; omega) ?_; intro v' w2 hown hgrow _ _; have R := Lib.hid (plain_push ((HO.out.ext HE1.out).ext (ext2 _ (.cells #[.string s, .int .i64 z] 31) (.cells #[.string s, .int .i64 z] 31))) ((HE.out.trans' HE1.out).trans' (ext2 _ _ _)) hown hgrow); clear hown hgrow))
      go_roundw
      case rel =>
        refine ⟨k + 1, cs ++ [(s, z)], by omega, by go_num, by simp [HC.out], ?_, R.out.1, R.out.2⟩
        rw [HV.out, List.take_succ_eq_append_getElem (by simpa using hkl), HS.out, HZZ.out]; simp [Co.val]
      case measure => simp [intOf]; omega
    · obtain rfl : k = n := by omega
      go_wp2
      go_ret2
      have hv : cs = l.map Co.val := by rw [HV.out, List.take_of_length_le (by simp [HL.out])]
      exact ⟨_, rfl, hv ▸ HO.out, HE.out⟩

end Go.Proofs.YtlpdhpfjcfihoaaGreatDoor

namespace Go.Proofs.YtlpdhpfjcfihoaaGreatDoor
open Go Go.RowKit

/-- The coins of a block of the call's own. -/
def Row (w : World) (g : Nat) (L : List Co) (rest : List Value) : Prop := Blk w g 134 (flat2 (L.map Co.pair) ++ rest)
theorem Row.drewN {w : World} {g : Nat} {L : List Co} {rest : List Value} (h : Row w g L rest) (n : Nat) : Row (w.drewN n) g L rest := h
theorem Row.drew {w : World} {g : Nat} {L : List Co} {rest : List Value} (h : Row w g L rest) : Row w.drew g L rest := h
theorem Only.drew' {g : Nat} {a w : World} (h : Only g a w) : Only g a w.drew := ⟨h.os, h.tape, h.output, h.size, h.block⟩
theorem Row.cell {w : World} {g : Nat} {L : List Co} {rest : List Value} (h : Row w g L rest) (j : Nat) (hj : j < L.length) :
    w.cell? ⟨g, j * 2, none⟩ = some (.string (Co.s L[j])) ∧ w.cell? ⟨g, j * 2 + 1, none⟩ = some (.pointer (some ⟨Co.b L[j], 0, none⟩)) := by
  have hl : (flat2 (L.map Co.pair)).length = L.length * 2 := by rw [flat2_length]; simp
  have hg := flat2_get (L.map Co.pair) j (by simpa using hj)
  have h1 : j * 2 < (flat2 (L.map Co.pair)).length := by omega
  have h2 : j * 2 + 1 < (flat2 (L.map Co.pair)).length := by omega
  constructor
  · rw [Blk.cell h, List.getElem?_append_left h1, hg.1]; simp [Co.pair]
  · rw [Blk.cell h, List.getElem?_append_left h2, hg.2]; simp [Co.pair]
theorem flat2_cons (a : Value × Value) (l : List (Value × Value)) : flat2 (a :: l) = a.1 :: a.2 :: flat2 l := by simp [flat2]
theorem swp_succ {α : Type} (a : α) (t : List α) (j : Nat) : swp (a :: t) (j + 1) = a :: swp t j := by cases t <;> simp [swp]
theorem swp_flat : ∀ (l : List (Value × Value)) (j : Nat) (h : j + 1 < l.length),
    flat2 (swp l j) = ((((flat2 l).set ((j + 1) * 2) l[j].1).set ((j + 1) * 2 + 1) l[j].2).set (j * 2) l[j + 1].1).set (j * 2 + 1) l[j + 1].2
  | a :: b :: t, 0, _ => by simp [swp, flat2_cons]
  | a :: t, j + 1, h => by
    have ih := swp_flat t j (by simpa using h)
    rw [swp_succ, flat2_cons, flat2_cons, ih]
    simp only [List.getElem_cons_succ]
    rw [show (j + 1 + 1) * 2 = (j + 1) * 2 + 1 + 1 by omega, show (j + 1) * 2 = j * 2 + 1 + 1 by omega]
    simp
  | [a], 0, h => by simp at h
  | [], _, h => by simp at h
theorem Row.swp {w : World} {g : Nat} {L : List Co} {rest : List Value} (h : Row w g L rest) (j : Nat) (hj : j + 1 < L.length) :
    Row ((((w.setCell ⟨g, (j + 1) * 2, none⟩ (.string (Co.s L[j]))).setCell ⟨g, (j + 1) * 2 + 1, none⟩ (.pointer (some ⟨Co.b L[j], 0, none⟩))).setCell ⟨g, j * 2, none⟩ (.string (Co.s L[j + 1]))).setCell ⟨g, j * 2 + 1, none⟩ (.pointer (some ⟨Co.b L[j + 1], 0, none⟩))) g (swp L j) rest := by
  have := (((Blk.set_ h ((j + 1) * 2) (.string (Co.s L[j]))).set_ ((j + 1) * 2 + 1) (.pointer (some ⟨Co.b L[j], 0, none⟩))).set_ (j * 2) (.string (Co.s L[j + 1]))).set_ (j * 2 + 1) (.pointer (some ⟨Co.b L[j + 1], 0, none⟩))
  unfold Row
  have hl : (flat2 (L.map Co.pair)).length = L.length * 2 := by rw [flat2_length]; simp
  rw [swp_map, swp_flat _ _ (by simpa using hj)]
  have e : ∀ (xs ys : List Value) (i : Nat) (u : Value), i < xs.length → (xs ++ ys).set i u = xs.set i u ++ ys := fun xs ys i u hi => by rw [List.set_append, if_pos hi]
  rw [e _ _ _ _ (by omega), e _ _ _ _ (by simp; omega), e _ _ _ _ (by simp; omega), e _ _ _ _ (by simp; omega)] at this
  simpa [Co.pair] using this

theorem cLen (a : Option Addr) (n c : Nat) (w : World) : Calls Tryz.prog 350 #[.slice a n c] w fun e w' => e = .returned (.int .i64 n) ∧ w' = w := by
  go_enter Tryz.func350, Tryz.ntmps350
  go_wp2
  go_ret
  exact ⟨rfl, rfl⟩

set_option maxRecDepth 100000 in
theorem cLess (g n c : Nat) (L : List Co) (rest : List Value) (w : World) (h : Row w g L rest) (hl : L.length = n) (i j : Nat) (hi : i < n) (hj : j < n) :
    Calls Tryz.prog 351 #[.slice (some ⟨g, 0, none⟩) n c, .int .i64 i, .int .i64 j] w (RetQ (.bool (keyLt (Co.s (L[i]'(by omega))) (Co.s (L[j]'(by omega))))) w) := by
  obtain ⟨s, hs⟩ : ∃ s, s = Co.s (L[i]'(by omega)) := ⟨_, rfl⟩
  obtain ⟨t, ht⟩ : ∃ t, t = Co.s (L[j]'(by omega)) := ⟨_, rfl⟩
  have c0 : w.cell? ⟨g, i * 2, none⟩ = some (.string s) := by rw [hs]; exact (h.cell i (by omega)).1
  have c1 : w.cell? ⟨g, j * 2, none⟩ = some (.string t) := by rw [ht]; exact (h.cell j (by omega)).1
  rw [← hs, ← ht]
  have b0 : (0 : Int) ≤ (i : Int) := by omega
  have b1 : (i : Int) < (n : Int) := by omega
  have b2 : (0 : Int) ≤ (j : Int) := by omega
  have b3 : (j : Int) < (n : Int) := by omega
  clear h hs ht hl hi hj
  have F := Lib.hid (show keyLt s t = Op.bytesLess s.toList t.toList from rfl)
  go_enter Tryz.func351, Tryz.ntmps351
  go_wp2
  go_quiet (fail)
  go_wp2
  go_ret
  rw [F.out]; exact ⟨rfl, by first | exact dr1 _ _ | exact dr2 _ _ _⟩

set_option maxRecDepth 100000 in
set_option maxHeartbeats 1000000 in
theorem cSwap (g n c : Nat) (L : List Co) (rest : List Value) (w : World) (h : Row w g L rest) (hl : L.length = n) (j : Nat) (hj : j + 1 < n) :
    Calls Tryz.prog 353 #[.slice (some ⟨g, 0, none⟩) n c, .int .i64 ((j : Int) + 1), .int .i64 j] w fun e w' => e = .returned (.tuple #[]) ∧ Row w' g (swp L j) rest ∧ Only g w w' := by
  obtain ⟨s, hs⟩ : ∃ s, s = Co.s (L[j]'(by omega)) := ⟨_, rfl⟩
  obtain ⟨t, ht⟩ : ∃ t, t = Co.s (L[j + 1]'(by omega)) := ⟨_, rfl⟩
  obtain ⟨x, hx⟩ : ∃ x, x = Co.b (L[j]'(by omega)) := ⟨_, rfl⟩
  obtain ⟨y, hy⟩ : ∃ y, y = Co.b (L[j + 1]'(by omega)) := ⟨_, rfl⟩
  have c0 : w.cell? ⟨g, j * 2, none⟩ = some (.string s) := by rw [hs]; exact (h.cell j (by omega)).1
  have c1 : w.cell? ⟨g, (j + 1) * 2, none⟩ = some (.string t) := by rw [ht]; exact (h.cell (j + 1) (by omega)).1
  have d0 : w.cell? ⟨g, j * 2 + 1, none⟩ = some (.pointer (some ⟨x, 0, none⟩)) := by rw [hx]; exact (h.cell j (by omega)).2
  have d1 : w.cell? ⟨g, (j + 1) * 2 + 1, none⟩ = some (.pointer (some ⟨y, 0, none⟩)) := by rw [hy]; exact (h.cell (j + 1) (by omega)).2
  have f0 : w.frozen? ⟨g, j * 2, none⟩ = false := Blk.frozen h _
  have f1 : w.frozen? ⟨g, (j + 1) * 2, none⟩ = false := Blk.frozen h _
  have f2 : w.frozen? ⟨g, j * 2 + 1, none⟩ = false := Blk.frozen h _
  have f3 : w.frozen? ⟨g, (j + 1) * 2 + 1, none⟩ = false := Blk.frozen h _
  have b0 : (0 : Int) ≤ (j : Int) := by omega
  have b1 : (j : Int) < (n : Int) := by omega
  have b2 : (j : Int) + 1 < (n : Int) := by omega
  have HR := Lib.hid h; have HS := Lib.hid hs; have HT := Lib.hid ht; have HX := Lib.hid hx; have HY := Lib.hid hy; have HL := Lib.hid hl
  clear h hs ht hx hy
  go_enter Tryz.func353, Tryz.ntmps353
  go_wp2
  go_region
  all_goals go_wp2
  all_goals go_end0
  all_goals exact ⟨rfl, by rw [HS.out, HT.out, HX.out, HY.out]; exact (HR.out.swp j (by omega)).drew, ((((Only.refl g w).set_ _ _).set_ _ _).set_ _ _ |>.set_ _ _).drew'⟩
end Go.Proofs.YtlpdhpfjcfihoaaGreatDoor

namespace Go.Proofs.YtlpdhpfjcfihoaaGreatDoor
open Go Go.RowKit

/-- Coins as a sort.Interface. -/
def sortV (g n c : Nat) : Value := .iface 92 (.slice (some ⟨g, 0, none⟩) n c)

set_option maxRecDepth 100000 in
set_option maxHeartbeats 1000000 in
theorem insSort (g n c : Nat) (L0 : List Co) (rest : List Value) (w : World) (h : Row w g L0 rest) (hl : L0.length = n) (hn : n ≤ 1000000) :
    Calls Tryz.prog 222 #[.iface 92 (.slice (some ⟨g, 0, none⟩) n c), .int .i64 0, .int .i64 n] w
      fun e w' => e = .returned (.tuple #[]) ∧ ∃ L, Row w' g L rest ∧ Only g w w' ∧ L.Perm L0 ∧ L.Pairwise fun a b => le (Co.s a) (Co.s b) := by
  have HR := Lib.hid h; have HL := Lib.hid hl
  clear h hl
  go_enter Tryz.func222, Tryz.ntmps222
  go_wp2
  go_loopw [6] (fun i wz => ∃ (k : Nat) (L : List Co), 1 ≤ k ∧ (k ≤ n ∨ k = 1) ∧ i = .int .i64 k ∧ Row wz g L rest ∧ Only g w wz ∧ InsO Co.s L0 L k) (fun i _ => n + 1 - (intOf i).toNat)
  case atStart => exact ⟨1, L0, Nat.le_refl _, Or.inr rfl, rfl, HR.out, Only.refl _ _, insO_start _⟩
  case round =>
    obtain ⟨k, L, hk1, hk, rfl, hb, ho, hins⟩ := hrel
    have HBz := Lib.hid hb; have HOz := Lib.hid ho; have HIz := Lib.hid hins
    clear hb ho hins
    have HLn := Lib.hid (show L.length = n by rw [HIz.out.1.length_eq, HL.out])
    by_cases hlt : k < n
    · go_wp2
      go_loopw [7] (fun i wz' => ∃ (j : Nat) (L' : List Co), i = .int .i64 j ∧ Row wz' g L' rest ∧ Only g w wz' ∧ InsI Co.s L0 L' k j) (fun i _ => (intOf i).toNat)
      case atStart => exact ⟨k, L, rfl, HBz.out, HOz.out, insO_in HIz.out (by rw [HLn.out]; exact hlt)⟩
      case round =>
        obtain ⟨j, L', rfl, hb, ho, hins⟩ := hrel
        have HBy := Lib.hid hb; have HOy := Lib.hid ho; have HIy := Lib.hid hins
        clear hb ho hins HBz HOz HIz HLn
        have HLy := Lib.hid (show L'.length = n by rw [HIy.out.1.length_eq, HL.out])
        rcases j with _ | j
        · go_wp2
          go_roundw
          case rel => exact ⟨k + 1, L', by omega, by omega, by go_num, HBy.out, HOy.out, insI_out0 HIy.out⟩
          case measure => simp [intOf]; omega
        · have hjl : j + 1 < L'.length := by have := HIy.out.2.1; have := HIy.out.2.2.1; omega
          have hjm : j + 1 < n := by rw [← HLy.out]; exact hjl
          obtain ⟨r, hr⟩ : ∃ r, r = keyLt (Co.s L'[j + 1]) (Co.s L'[j]) := ⟨_, rfl⟩
          have HC := Lib.hid (show Calls Tryz.prog 351 #[.slice (some ⟨g, 0, none⟩) n c, .int .i64 ((j : Int) + 1), .int .i64 j] wr (RetQ (.bool r) wr) by
            rw [hr]; exact cLess g n c L' rest wr HBy.out HLy.out (j + 1) j hjm (by omega))
          have HS := Lib.hid hr; clear hr
          cases r
          · go_wp2_with (first | (go_at_call 351; refine HC.out.mono ?_; rintro e w' ⟨rfl, q, rfl⟩))
            go_roundw
            case rel => exact ⟨k + 1, L', by omega, by omega, by go_num, HBy.out.drewN _, HOy.out.drewN _, insI_out HIy.out hjl HS.out.symm⟩
            case measure => simp [intOf]; omega
          · go_wp2_with (first | (go_at_call 351; refine HC.out.mono ?_; rintro e w' ⟨rfl, q, rfl⟩) | (go_at_call 353; refine (cSwap g n c L' rest _ (HBy.out.drewN _) HLy.out j hjm).mono ?_; rintro e w' ⟨rfl, hrow, honly⟩; have R := Lib.hid (And.intro hrow honly); clear hrow honly))
            go_roundw
            case rel => exact ⟨j, swp L' j, rfl, R.out.1, (HOy.out.drewN _).trans' R.out.2, insI_swp HIy.out hjl HS.out.symm⟩
            case measure => simp [intOf]
    · go_wp2
      go_end0
      obtain ⟨hP, hS⟩ := insO_end HIz.out (by rw [HLn.out]; omega)
      exact ⟨rfl, L, HBz.out, HOz.out, hP, hS⟩
end Go.Proofs.YtlpdhpfjcfihoaaGreatDoor

namespace Go.Proofs.YtlpdhpfjcfihoaaGreatDoor
open Go Go.RowKit Go.Shelf

def renL : Ren where
  f := fun n => if n = 125 then 185 else if n = 128 then 220 else 221
  t := fun n => if n = 3 then 3 else if n = 4 then 4 else if n = 5 then 5 else if n = 9 then 9 else if n = 46 then 171 else if n = 51 then 214 else 51
  g := fun n => n
theorem laysL : Lays.n125 Tryz.prog renL where
  mixed := by kernel_rfl
  f125 := by kernel_rfl
  f128 := by kernel_rfl
  f129 := by kernel_rfl
  t3 := by kernel_rfl
  a3 := by intro w; kernel_rfl
  z3 := by intro w; kernel_rfl
  v3 := by intro w; kernel_rfl
  t4 := by kernel_rfl
  a4 := by intro w; kernel_rfl
  z4 := by intro w; kernel_rfl
  v4 := by intro w; kernel_rfl
  t5 := by kernel_rfl
  a5 := by intro w; kernel_rfl
  z5 := by intro w; kernel_rfl
  v5 := by intro w; kernel_rfl
  t9 := by kernel_rfl
  a9 := by intro w; kernel_rfl
  z9 := by intro w; kernel_rfl
  v9 := by intro w; kernel_rfl
  t46 := by kernel_rfl
  a46 := by intro w; kernel_rfl
  z46 := by intro w; kernel_rfl
  v46 := by intro w; kernel_rfl
  t51 := by kernel_rfl
  a51 := by intro w; kernel_rfl
  z51 := by intro w; kernel_rfl
  v51 := by intro w; kernel_rfl
  t53 := by kernel_rfl
  a53 := by intro w; kernel_rfl
  z53 := by intro w; kernel_rfl
  v53 := by intro w; kernel_rfl

theorem bLen (x : Int) (w : World) (h0 : 0 ≤ x) (h1 : x ≤ 18446744073709551615) : Calls Tryz.prog 185 #[.int .u64 x] w fun e w' => e = .returned (.int .i64 (Lib.bitLen x.toNat)) ∧ w' = w :=
  Any.bits_Len laysL x w h0 h1
end Go.Proofs.YtlpdhpfjcfihoaaGreatDoor

namespace Go.Proofs.YtlpdhpfjcfihoaaGreatDoor
open Go Go.RowKit

/-- Coins in order. -/
def InOrd (L : List Co) : Prop := ∀ p q, (hq : q < L.length) → (h : p < q) → keyLt (Co.s L[q]) (Co.s L[p]) = false
theorem inOrd_of {L : List Co} (h : L.Pairwise fun a b => keyLt (Co.s a) (Co.s b) = true) : InOrd L := fun p q hq hpq => keyLt_asymm (List.pairwise_iff_getElem.1 h p q (by omega) hq hpq)
/-- Two numbers handed back; the world has drawn. -/
def RetAB (a b : Nat) (w : World) (e : Ending) (w' : World) : Prop := e = .returned (.tuple #[.int .i64 a, .int .i64 b]) ∧ ∃ q, w' = w.drewN q

set_option maxRecDepth 100000 in
set_option maxHeartbeats 2000000 in
theorem order2 (g n c : Nat) (L : List Co) (rest : List Value) (w : World) (h : Row w g L rest) (hl : L.length = n) (hO : InOrd L) (a b : Nat) (hab : a < b) (hb : b < n) (p : Value) :
    Calls Tryz.prog 293 #[.iface 92 (.slice (some ⟨g, 0, none⟩) n c), .int .i64 a, .int .i64 b, p] w (RetAB a b w) := by
  have HC := Lib.hid (show Calls Tryz.prog 351 #[.slice (some ⟨g, 0, none⟩) n c, .int .i64 b, .int .i64 a] w (RetQ (.bool false) w) by
    have := cLess g n c L rest w h hl b a hb (by omega)
    rwa [hO a b (by omega) hab] at this)
  clear h hO
  go_enter Tryz.func293, Tryz.ntmps293
  go_wp2_with (first | (go_at_call 351; refine HC.out.mono ?_; rintro e w' ⟨rfl, q, rfl⟩))
  go_ret2
  exact ⟨rfl, q, rfl⟩

set_option maxRecDepth 100000 in
set_option maxHeartbeats 2000000 in
theorem median (g n c : Nat) (L : List Co) (rest : List Value) (w : World) (h : Row w g L rest) (hl : L.length = n) (hO : InOrd L) (x y z : Nat) (hxy : x < y) (hyz : y < z) (hz : z < n) (p : Value) :
    Calls Tryz.prog 266 #[.iface 92 (.slice (some ⟨g, 0, none⟩) n c), .int .i64 x, .int .i64 y, .int .i64 z, p] w (RetQ (.int .i64 y) w) := by
  have hd : ∀ (u v : Nat), u < v → v < n → ∀ k, Calls Tryz.prog 293 #[.iface 92 (.slice (some ⟨g, 0, none⟩) n c), .int .i64 u, .int .i64 v, p] (w.drewN k) (RetAB u v w) := by
    intro u v huv hv k
    refine (order2 g n c L rest _ (h.drewN k) hl hO u v huv hv p).mono ?_
    rintro e w' ⟨rfl, q, rfl⟩
    exact ⟨rfl, dr2 _ _ _⟩
  have H0 := Lib.hid (order2 g n c L rest w h hl hO x y hxy (by omega) p)
  have H1 := Lib.hid (hd x y hxy (by omega))
  have H2 := Lib.hid (hd y z hyz hz)
  clear h hO hd
  go_enter Tryz.func266, Tryz.ntmps266
  go_wp2_with (first | (go_at_call 293; (with_reducible refine H0.out.mono ?_); rintro e w' ⟨rfl, q, rfl⟩) | (go_at_call 293; (with_reducible refine (H1.out _).mono ?_); rintro e w' ⟨rfl, q, rfl⟩) | (go_at_call 293; (with_reducible refine (H2.out _).mono ?_); rintro e w' ⟨rfl, q, rfl⟩))
  go_ret
  exact ⟨rfl, _, rfl⟩

theorem Row.ext {w w' : World} {g : Nat} {L : List Co} {rest : List Value} (h : Row w g L rest) (e : Ext w w') : Row w' g L rest := Blk.ext h e

set_option maxRecDepth 100000 in
set_option maxHeartbeats 2000000 in
theorem choosePivot (g n c : Nat) (L : List Co) (rest : List Value) (w : World) (h : Row w g L rest) (hl : L.length = n) (hO : InOrd L) (h12 : 12 < n) (h50 : n < 50) :
    Calls Tryz.prog 225 #[.iface 92 (.slice (some ⟨g, 0, none⟩) n c), .int .i64 0, .int .i64 n] w
      fun e w' => ∃ k : Nat, e = .returned (.tuple #[.int .i64 k, .int .i64 1]) ∧ Ext w w' := by
  have hq : ((n : Int)).tdiv 4 = ((n / 4 : Nat) : Int) := by rw [Int.tdiv_eq_ediv_of_nonneg (by omega)]; rfl
  obtain ⟨m, hm⟩ : ∃ m, m = n / 4 := ⟨_, rfl⟩
  rw [← hm] at hq
  have hm1 : 3 ≤ m := by omega
  have hm2 : m * 3 < n := by omega
  have hm3 : m ≤ 12 := by omega
  have H1 := Lib.hid (fun W (hW : Row W g L rest) p => median g n c L rest W hW hl hO m (m * 2) (m * 3) (by omega) (by omega) hm2 p)
  have HR := Lib.hid h
  have d8 : decide ((8 : Int) ≤ (n : Int)) = true := by simp; omega
  have d50 : decide ((50 : Int) ≤ (n : Int)) = false := by simp; omega
  clear h hO hm
  go_enter Tryz.func225, Tryz.ntmps225
  go_wp2_with (first | (go_at_call 266; refine (H1.out _ (HR.out.ext (Ext.alloc' _ _)) _).mono ?_; rintro e w' ⟨rfl, q, rfl⟩))
  go_ret2
  exact ⟨_, rfl, ((Ext.alloc' w _).trans' (Ext.drewN' _ _))⟩
set_option maxRecDepth 100000 in
set_option maxHeartbeats 2000000 in
theorem partialIns (g n c : Nat) (L : List Co) (rest : List Value) (w : World) (h : Row w g L rest) (hl : L.length = n) (hO : InOrd L) (h12 : 12 < n) (hn : n ≤ 1000000) :
    Calls Tryz.prog 227 #[.iface 92 (.slice (some ⟨g, 0, none⟩) n c), .int .i64 0, .int .i64 n] w (RetQ (.bool true) w) := by
  have HC := Lib.hid (fun (j k : Nat) (hj : j + 1 < n) => show Calls Tryz.prog 351 #[.slice (some ⟨g, 0, none⟩) n c, .int .i64 ((j : Int) + 1), .int .i64 j] (w.drewN k) (RetQ (.bool false) w) by
    have := cLess g n c L rest (w.drewN k) (h.drewN k) hl (j + 1) j hj (by omega)
    rw [hO j (j + 1) (by omega) (by omega)] at this
    refine Calls.mono this ?_
    rintro e w' ⟨rfl, q, rfl⟩
    exact ⟨rfl, dr2 _ _ _⟩)
  clear h hO
  go_enter Tryz.func227, Tryz.ntmps227
  go_wp2
  go_loopw [7, 8] (fun i j wz => i = .int .i64 1 ∧ j = .int .i64 0 ∧ w = wz) (fun _ _ _ => 0)
  case atStart => exact ⟨rfl, rfl, rfl⟩
  case round =>
    obtain ⟨rfl, rfl, rfl⟩ := hrel
    go_wp2
    go_loopw [7] (fun i wz => ∃ (j q : Nat), j + 1 ≤ n ∧ i = .int .i64 ((j : Int) + 1) ∧ wz = w.drewN q) (fun i _ => n - (intOf i).toNat)
    case atStart => exact ⟨0, 0, by omega, rfl, rfl⟩
    case round =>
      obtain ⟨j, q, hj, rfl, rfl⟩ := hrel
      by_cases hlt : j + 1 < n
      · have b1 : (j : Int) + 1 < (n : Int) := by omega
        have HC1 := Lib.hid (HC.out j q hlt)
        go_wp2_with (first | (go_at_call 351; (with_reducible refine HC1.out.mono ?_); rintro e w' ⟨rfl, q2, rfl⟩))
        go_roundw
        case rel => exact ⟨j + 1, q2, by omega, by go_num, rfl⟩
        case measure => simp [intOf]; omega
      · obtain rfl : j + 1 = n := by omega
        go_wp2
        go_ret
        exact ⟨rfl, _, rfl⟩

/-- Sorted coins of the same block, in w'. -/
def RetSort (g : Nat) (L0 : List Co) (rest : List Value) (w : World) (r : Value) (e : Ending) (w' : World) : Prop :=
  e = .returned r ∧ ∃ L, Row w' g L rest ∧ Only g w w' ∧ L.Perm L0 ∧ L.Pairwise fun a b => le (Co.s a) (Co.s b)

set_option maxRecDepth 100000 in
set_option maxHeartbeats 2000000 in
theorem pdqSmall (g n c lim : Nat) (L : List Co) (rest : List Value) (w : World) (h : Row w g L rest) (hl : L.length = n) (h12 : n ≤ 12) :
    Calls Tryz.prog 186 #[.iface 92 (.slice (some ⟨g, 0, none⟩) n c), .int .i64 0, .int .i64 n, .int .i64 lim] w (RetSort g L rest w (.tuple #[])) := by
  have H := Lib.hid (insSort g n c L rest w h hl (by omega))
  clear h
  have d12 : decide ((n : Int) ≤ 12) = true := by simp; omega
  go_enter Tryz.func186, Tryz.ntmps186
  go_wp2
  go_loopw [1, 2, 3, 8, 9] (fun a b l x y wz => a = .int .i64 0 ∧ b = .int .i64 n ∧ l = .int .i64 lim ∧ x = .bool true ∧ y = .bool true ∧ w = wz) (fun _ _ _ _ _ _ => 0)
  case atStart => exact ⟨rfl, rfl, rfl, rfl, rfl, rfl⟩
  case round =>
    obtain ⟨rfl, rfl, rfl, rfl, rfl, rfl⟩ := hrel
    go_wp2_with (first | (go_at_call 222; (with_reducible refine H.out.mono ?_); rintro e w' ⟨rfl, hh⟩; have H2 := Lib.hid hh; clear hh))
    go_end0
    exact ⟨rfl, H2.out⟩

set_option maxRecDepth 100000 in
set_option maxHeartbeats 2000000 in
theorem pdqOrd (g n c lim : Nat) (L : List Co) (rest : List Value) (w : World) (h : Row w g L rest) (hl : L.length = n) (hO : InOrd L) (h12 : 12 < n) (h50 : n < 50) (hlim : lim ≠ 0) :
    Calls Tryz.prog 186 #[.iface 92 (.slice (some ⟨g, 0, none⟩) n c), .int .i64 0, .int .i64 n, .int .i64 lim] w (RetSort g L rest w (.tuple #[])) := by
  have H1 := Lib.hid (choosePivot g n c L rest w h hl hO h12 h50)
  have H2 := Lib.hid (fun W (hW : Row W g L rest) => partialIns g n c L rest W hW hl hO h12 (by omega))
  have HR := Lib.hid h
  have HO := Lib.hid (show L.Pairwise fun a b => le (Co.s a) (Co.s b) from List.pairwise_iff_getElem.2 fun p q _ hq hpq => hO p q hq hpq)
  clear h hO
  have d12 : decide ((n : Int) ≤ 12) = false := by simp; omega
  have dl : ((lim : Int) == 0) = false := by simp; omega
  go_enter Tryz.func186, Tryz.ntmps186
  go_wp2
  go_loopw [1, 2, 3, 8, 9] (fun a b l x y wz => a = .int .i64 0 ∧ b = .int .i64 n ∧ l = .int .i64 lim ∧ x = .bool true ∧ y = .bool true ∧ w = wz) (fun _ _ _ _ _ _ => 0)
  case atStart => exact ⟨rfl, rfl, rfl, rfl, rfl, rfl⟩
  case round =>
    obtain ⟨rfl, rfl, rfl, rfl, rfl, rfl⟩ := hrel
    go_wp2_with (first | (go_at_call 225; (with_reducible refine H1.out.mono ?_); rintro e w' ⟨k, rfl, hh⟩; have HE := Lib.hid hh; clear hh) | (go_at_call 227; refine (H2.out _ (HR.out.ext HE.out)).mono ?_; rintro e w2 ⟨rfl, q, rfl⟩))
    go_end0
    exact ⟨rfl, L, (HR.out.ext HE.out).drewN _, (Only.of_ext HE.out).drewN _, List.Perm.refl _, HO.out⟩

theorem pdq (g n c lim : Nat) (L : List Co) (rest : List Value) (w : World) (h : Row w g L rest) (hl : L.length = n) (hO : n ≤ 12 ∨ n < 50 ∧ InOrd L) (hlim : lim ≠ 0) :
    Calls Tryz.prog 186 #[.iface 92 (.slice (some ⟨g, 0, none⟩) n c), .int .i64 0, .int .i64 n, .int .i64 lim] w (RetSort g L rest w (.tuple #[])) := by
  by_cases h12 : n ≤ 12
  · exact pdqSmall g n c lim L rest w h hl h12
  · rcases hO with hO | ⟨h50, hO⟩
    · exact absurd hO h12
    · exact pdqOrd g n c lim L rest w h hl hO (by omega) h50 hlim

theorem bitLen_pos : ∀ n : Fin 64, 1 ≤ n.val → Lib.bitLen n.val ≠ 0 := by decide +kernel

set_option maxRecDepth 100000 in
set_option maxHeartbeats 2000000 in
theorem sortSort (g n c : Nat) (L : List Co) (rest : List Value) (w : World) (h : Row w g L rest) (hl : L.length = n) (hO : n ≤ 12 ∨ n < 50 ∧ InOrd L) (h2 : 2 ≤ n) :
    Calls Tryz.prog 152 #[.iface 92 (.slice (some ⟨g, 0, none⟩) n c)] w (RetSort g L rest w (.tuple #[])) := by
  have H := Lib.hid (pdq g n c (Lib.bitLen n) L rest w h hl hO (bitLen_pos ⟨n, by omega⟩ (by show 1 ≤ n; omega)))
  have HB := Lib.hid (show Calls Tryz.prog 185 #[.int .u64 n] w fun e w' => e = .returned (.int .i64 (Lib.bitLen n)) ∧ w' = w by
    have := bLen (n : Int) w (by omega) (by omega); simpa using this)
  have d1 : decide ((n : Int) ≤ 1) = false := by simp; omega
  have hwr : IntKind.u64.wrap (n : Int) = (n : Int) := by rw [IntKind.wrap_u64]; omega
  clear h hO
  go_enter Tryz.func152, Tryz.ntmps152
  go_wp2_with (first | (go_at_call 350; refine (cLen _ n c _).mono ?_; rintro e w' ⟨rfl, rfl⟩) | (go_at_call 185; (with_reducible refine HB.out.mono ?_); rintro e w' ⟨rfl, rfl⟩) | (go_at_call 186; (with_reducible refine H.out.mono ?_); rintro e w' ⟨rfl, hh⟩; have H2 := Lib.hid hh; clear hh))
  go_end0
  exact ⟨rfl, H2.out⟩

set_option maxRecDepth 100000 in
set_option maxHeartbeats 2000000 in
/-- Coins.Sort of a row of the call's own. -/
theorem tSort (g n c : Nat) (L : List Co) (rest : List Value) (w : World) (h : Row w g L rest) (hl : L.length = n) (hO : n ≤ 12 ∨ n < 50 ∧ InOrd L) :
    Calls Tryz.prog 194 #[.slice (some ⟨g, 0, none⟩) n c] w (RetSort g L rest w (.slice (some ⟨g, 0, none⟩) n c)) := by
  by_cases h2 : 2 ≤ n
  · have H := Lib.hid (sortSort g n c L rest w h hl hO h2)
    have d1 : decide ((1 : Int) < (n : Int)) = true := by simp; omega
    clear h hO
    go_enter Tryz.func194, Tryz.ntmps194
    go_wp2_with (first | (go_at_call 152; (with_reducible refine H.out.mono ?_); rintro e w' ⟨rfl, hh⟩; have H2 := Lib.hid hh; clear hh))
    go_ret
    exact ⟨rfl, H2.out⟩
  · have HR := Lib.hid h
    have HP := Lib.hid (show L.Pairwise fun a b => le (Co.s a) (Co.s b) from List.pairwise_iff_getElem.2 fun p q _ hq hpq => by omega)
    have d1 : decide ((1 : Int) < (n : Int)) = false := by simp; omega
    clear h hO
    go_enter Tryz.func194, Tryz.ntmps194
    go_wp2
    go_ret
    exact ⟨rfl, L, HR.out, Only.refl _ _, List.Perm.refl _, HP.out⟩
end Go.Proofs.YtlpdhpfjcfihoaaGreatDoor

namespace Go.Proofs.YtlpdhpfjcfihoaaGreatDoor
open Go Go.RowKit Go.Maps

/-- A key of a map of strings. -/
def lk (s : ByteArray) : Lit := .string s.data.toList
theorem lk_inj {s t : ByteArray} (h : lk s = lk t) : s = t := by
  unfold lk at h; injection h with h
  exact ByteArray.ext (Array.ext' h)
theorem keyOf_str {P : Program} {k : TypeId} (hk : P.underlying k = some .string) {s : ByteArray} (hs : s.size ≤ maxLen) : keyOf P k (.string s) = some (lk s) := by
  simp [keyOf, hk, mapKey, hs, lk]
theorem keyOf_str_inv {P : Program} {k : TypeId} (hk : P.underlying k = some .string) {v : Value} {kl : Lit} (h : keyOf P k v = some kl) : ∃ s : ByteArray, v = .string s ∧ kl = lk s := by
  cases v <;> simp [keyOf, hk, mapKey] at h
  exact ⟨_, rfl, h.2.symm⟩
/-- A map's element, as it is. -/
def asIs (v : Value) : Option (DataW Value × List MemPlace) := some (.held v, [])

theorem infoStr : (Tryz.prog.info? 9).map (fun i => (i.zero, i.size, i.bytes)) = some (some (.string ByteArray.empty), 1, 16) := by kernel_rfl
/-- Keys handed back. -/
def RetKeys (D : DataW Value) (w : World) (e : Ending) (w' : World) : Prop :=
  ∃ (v : Value) (ks : List ByteArray), e = .returned v ∧ w'.ownsRow w.heap.size 9 1 v ks.length (ks.map Value.string) ∧ Ext w w' ∧ (∀ s, s ∈ ks ↔ has D (lk s) = true) ∧ ks.Pairwise (fun a b => keyLt a b = true)

theorem strict_of {L : List ByteArray} (h : L.Pairwise fun a b => le a b) (hn : L.Nodup) : L.Pairwise fun a b => keyLt a b = true :=
  (List.pairwise_and_iff.2 ⟨h, hn⟩).imp fun {a b} hh => by
    obtain ⟨h1, h2⟩ := hh
    cases e : keyLt a b
    · exact absurd (keyLt_tri e h1) h2
    · rfl

theorem keysK : Keyed Tryz.prog 9 := string_keyed Tryz.underlying9

theorem row_low {w : World} {base base' : Nat} {E : TypeId} {k n : Nat} {v : Value} {xs : List Value} (h : w.ownsRow base E k v n xs) (hb : base' ≤ base) : w.ownsRow base' E k v n xs := by
  refine ⟨h.1, ?_⟩
  rcases h.2 with h | ⟨g, cap, cur, e, hg, r⟩
  · exact Or.inl h
  · exact Or.inr ⟨g, cap, cur, e, by omega, r⟩
/-- The cells of a row of strings. -/
theorem str_cell {w : World} {g : Nat} {L : List ByteArray} {rest : List Value} (h : Blk w g 9 (L.map Value.string ++ rest)) (j : Nat) (hj : j < L.length) : w.cell? ⟨g, j, none⟩ = some (.string L[j]) := by
  rw [h.cell j, List.getElem?_append_left (by simpa using hj)]; simp [hj]
theorem str_swp {w : World} {g : Nat} {L : List ByteArray} {rest : List Value} (h : Blk w g 9 (L.map Value.string ++ rest)) (j : Nat) (hj : j + 1 < L.length) :
    Blk ((w.setCell ⟨g, j + 1, none⟩ (.string L[j])).setCell ⟨g, j, none⟩ (.string L[j + 1])) g 9 ((swp L j).map Value.string ++ rest) := by
  have := (h.set_ (j + 1) (.string L[j])).set_ j (.string L[j + 1])
  rw [swp_map, swp_set _ _ (by simpa using hj)]
  simpa [List.set_append, show j + 1 < L.length from hj, show j < L.length by omega] using this

set_option maxRecDepth 100000 in
set_option maxHeartbeats 1000000 in
theorem zKeys (b n : Nat) (D : DataW Value) (w : World) (h : w.ownsMap Tryz.prog 9 asIs b n D) (hD : size D ≤ 1000000) :
    Calls Tryz.prog 191 #[.map (some b)] w (RetKeys D w) := by
  obtain ⟨i0, hi, hz0, hz1, hz2⟩ := info_parts infoStr
  have hbl := h.lt
  have HM := Lib.hid h; clear h
  go_enter Tryz.func191, Tryz.ntmps191
  go_wp2_with (first | (at_range; refine wpList_range_own _ rfl _ 193 rfl 9 92 keysK Tryz.underlying193 _ b n _ rfl HM.out ?_; intro w0 hrg0 hg0 hs0; have R0 := Lib.hid (And.intro hrg0 hg0); clear hrg0 hg0))
  go_frame
  go_loopw [3] (fun v wr => ∃ (left : Lit → Bool) (cnt : Nat) (ks : List ByteArray), wr.ranges Tryz.prog 9 asIs b w.heap.size n D left cnt ∧ ks.length + cnt ≤ size D ∧ wr.ownsRow (w.heap.size + 1) 9 1 v ks.length (ks.map Value.string) ∧ Ext w wr ∧
      (∀ s, s ∈ ks ↔ (has D (lk s) = true ∧ left (lk s) = false)) ∧ ks.Nodup ∧ w.heap.size + 1 ≤ wr.heap.size)
    (fun _ wr => wr.rangeLeft b w.heap.size)
  case atStart =>
    exact ⟨_, _, [], R0.out.1, by simp, World.ownsRow_nil _ _ _ _, ⟨R0.out.2.os, R0.out.2.tape, R0.out.2.output, R0.out.2.size, fun i hi => R0.out.2.block i hi (by simp)⟩, fun s => by simp, List.nodup_nil, by omega⟩
  case round =>
    obtain ⟨left, cnt, ks, hrg, hcs, hown, hE, hks, hnd, hsz⟩ := hrel
    have HR := Lib.hid hrg; have HO := Lib.hid hown; have HE := Lib.hid hE; have HK := Lib.hid hks; have HN := Lib.hid hnd
    clear hrg hown hE hks hnd R0
    go_wp2_with (first
      | (at_next; refine wpList_next_ranges _ rfl _ rfl 9 keysK asIs (α := ByteArray) (β := Value) Value.string id (fun key kl hk => by obtain ⟨s, rfl, _⟩ := keyOf_str_inv Tryz.underlying9 hk; exact ⟨s, rfl⟩) (fun v y _ => ⟨v, rfl⟩) b w.heap.size n _ _ _ rfl HR.out ?_ ?_)
      | go_in)
    · intro hc0 hl0
      have hlen : ks.length ≤ 1000000 := by omega
      have HKs := Lib.hid (show ∀ s, s ∈ ks ↔ has D (lk s) = true from fun s => (HK.out s).trans ⟨fun h => h.1, fun h => ⟨h, hl0 _⟩⟩)
      clear HK hl0 hc0 hcs HR
      rcases HO.out.2 with ⟨hv, hn0⟩ | ⟨g, cap, cur, hv, hbg, hgb, hnc, hcm, hcs, hct⟩
      · obtain rfl : ks = [] := List.length_eq_zero_iff.1 hn0
        subst hv
        go_wp2
        go_loopw [5] (fun i wz => i = .int .i64 1 ∧ wz = wr) (fun _ _ => 0)
        case atStart => exact ⟨rfl, rfl⟩
        case round =>
          obtain ⟨rfl, rfl⟩ := hrel
          go_wp2
          go_ret
          exact ⟨_, [], rfl, World.ownsRow_nil _ _ _ _, HE.out, HKs.out, List.Pairwise.nil⟩
      · obtain ⟨m, hm⟩ : ∃ m, m = ks.length := ⟨_, rfl⟩
        have HB := Lib.hid (show Blk wr g 9 (ks.map Value.string ++ cur.toList.drop m) by
          have e : cur.toList = ks.map Value.string ++ cur.toList.drop m := by
            conv => lhs; rw [← List.take_append_drop m cur.toList]
            rw [← hct, ← hm]; simp
          unfold Blk; rw [← e]; simpa using hgb)
        obtain ⟨rest, hrest⟩ : ∃ rest, rest = cur.toList.drop m := ⟨_, rfl⟩
        rw [← hrest] at HB
        have HREST := Lib.hid (show rest.length + m = cap by rw [hrest]; simp; have := hcs; omega)
        rw [← hm] at hv hlen hnc
        have HM2 := Lib.hid hm
        obtain ⟨W1, rfl⟩ : ∃ W1, W1 = wr := ⟨_, rfl⟩
        clear hgb hcs hct hrest hm HO
        subst hv
        go_wp2
        go_loopw [5] (fun i wz => ∃ (k : Nat) (L : List ByteArray), 1 ≤ k ∧ (k ≤ m ∨ k = 1) ∧ i = .int .i64 k ∧ Blk wz g 9 (L.map Value.string ++ rest) ∧ Only g W1 wz ∧ InsO id ks L k) (fun i _ => m + 1 - (intOf i).toNat)
        case atStart => exact ⟨1, ks, Nat.le_refl _, Or.inr rfl, rfl, HB.out, Only.refl _ _, insO_start _⟩
        case round =>
          obtain ⟨k, L, hk1, hk, rfl, hb, ho, hins⟩ := hrel
          have HBz := Lib.hid hb; have HOz := Lib.hid ho; have HIz := Lib.hid hins
          clear hb ho hins
          have HLn := Lib.hid (show L.length = m by rw [HIz.out.1.length_eq, HM2.out])
          by_cases hlt : k < m
          · go_wp2
            go_loopw [6] (fun i wz' => ∃ (j : Nat) (L' : List ByteArray), i = .int .i64 j ∧ Blk wz' g 9 (L'.map Value.string ++ rest) ∧ Only g W1 wz' ∧ InsI id ks L' k j) (fun i _ => (intOf i).toNat)
            case atStart => exact ⟨k, L, rfl, HBz.out, HOz.out, insO_in HIz.out (by rw [HLn.out]; exact hlt)⟩
            case round =>
              obtain ⟨j, L', rfl, hb, ho, hins⟩ := hrel
              have HBy := Lib.hid hb; have HOy := Lib.hid ho; have HIy := Lib.hid hins
              clear hb ho hins HBz HOz HIz HLn
              have HLy := Lib.hid (show L'.length = m by rw [HIy.out.1.length_eq, HM2.out])
              rcases j with _ | j
              · go_wp2
                go_quiet (fail)
                go_wp2
                go_roundw
                case rel => exact ⟨k + 1, L', by omega, by omega, by go_num, HBy.out, HOy.out.drewN _, insI_out0 HIy.out⟩
                case measure => simp [intOf]; omega
              · have hjl : j + 1 < L'.length := by have := HIy.out.2.1; have := HIy.out.2.2.1; omega
                have hjm : j + 1 < m := by rw [← HLy.out]; exact hjl
                obtain ⟨s, hs⟩ : ∃ s, s = L'[j] := ⟨_, rfl⟩
                obtain ⟨t, ht⟩ : ∃ t, t = L'[j + 1] := ⟨_, rfl⟩
                have c0 : wr.cell? ⟨g, j, none⟩ = some (.string s) := by rw [hs]; exact str_cell HBy.out j (by omega)
                have c1 : wr.cell? ⟨g, j + 1, none⟩ = some (.string t) := by rw [ht]; exact str_cell HBy.out (j + 1) hjl
                have f0 : wr.frozen? ⟨g, j, none⟩ = false := HBy.out.frozen _
                have f1 : wr.frozen? ⟨g, j + 1, none⟩ = false := HBy.out.frozen _
                have HS := Lib.hid hs; have HT := Lib.hid ht; clear hs ht
                have b0 : (0 : Int) ≤ (j : Int) := by omega
                have b1 : (j : Int) < (m : Int) := by omega
                have b2 : (j : Int) + 1 < (m : Int) := by omega
                have b3 : (0 : Int) < (j : Int) + 1 := by omega
                by_cases hgt : keyLt t s = true
                · have HG := Lib.hid hgt
                  have g1 : Op.bytesLess t.toList s.toList = true := hgt
                  clear hgt
                  go_wp2
                  go_quiet (fail)
                  go_wp2
                  go_region
                  all_goals go_wp2
                  go_roundw
                  case rel =>
                    refine ⟨j, swp L' j, rfl, ?_, ?_, insI_swp HIy.out hjl (by show keyLt L'[j + 1] L'[j] = true; rw [← HS.out, ← HT.out]; exact HG.out)⟩
                    · rw [HS.out, HT.out]; exact str_swp (HBy.out.drewN _) j hjl
                    · exact ((HOy.out.drewN _).set_ _ _).set_ _ _
                  case measure => simp [intOf]
                · have hgt' : keyLt t s = false := by simpa using hgt
                  have HG := Lib.hid hgt'
                  have g1 : Op.bytesLess t.toList s.toList = false := hgt'
                  clear hgt hgt'
                  go_wp2
                  go_quiet (fail)
                  go_wp2
                  go_roundw
                  case rel => exact ⟨k + 1, L', by omega, by omega, by go_num, HBy.out, HOy.out.drewN _, insI_out HIy.out hjl (by show keyLt L'[j + 1] L'[j] = false; rw [← HS.out, ← HT.out]; exact HG.out)⟩
                  case measure => simp [intOf]; omega
          · go_wp2
            go_ret
            obtain ⟨hP, hS⟩ := insO_end HIz.out (by rw [HLn.out]; omega)
            refine ⟨.slice (some ⟨g, 0, none⟩) m cap, L, rfl, ⟨by simp, Or.inr ⟨g, cap, (L.map Value.string ++ rest).toArray, by rw [HLn.out], by omega, HBz.out, by rw [HLn.out]; omega, hcm, ?_, ?_⟩⟩, Only.ext HE.out HOz.out (by omega), fun s => (hP.mem_iff).trans (HKs.out s), strict_of hS (hP.nodup_iff.2 HN.out)⟩
            · have := HREST.out; have := HLn.out; simp; omega
            · simp
    · intro x c kl y ps w1 cnt1 hkey hlk hRv hat hrg1 hlt hg1 hs1 hen
      obtain ⟨s, hse, hkl⟩ := keyOf_str_inv Tryz.underlying9 hkey
      obtain rfl : x = s := by injection hse
      subst hkl
      have HR1 := Lib.hid hrg1; have HG1 := Lib.hid hg1
      have hlen : ks.length ≤ 1000000 := by omega
      have H1 := Lib.hid (World.ownsRow.kept HO.out hg1 (by rcases HO.out.2 with ⟨rfl, _⟩ | ⟨g, _, _, rfl, hg, _⟩; exact Or.inl rfl; exact Or.inr (by simp [Value.ownBlock]; omega)))
      have HLK := Lib.hid hlk
      have HHAS := Lib.hid (show has D (lk x) = true by
        cases e : has D (lk x)
        · have := hat (.held (.int .i64 1)); have h2 := hat (.held (.int .i64 2))
          rw [atKey_of_not_has e] at this h2; rw [← this] at h2; cases h2
        · rfl)
      clear hrg1 hg1 hkey hse hat hRv hlk
      have HS1 := Lib.hid hs1; clear hs1
      go_wp2_with (first | (at_builtin; refine wpList_append_own_at _ rfl (.tmp 13) (.tmp 15) 195 rfl (w.heap.size + 1) 9 i0 _ 1 16 Tryz.underlying195 hi hz0 hz1 hz2 rfl (by decide) u3 ks.length (ks.map Value.string) rfl (H1.out.alloc _) ⟨w1.heap.size, 0, none⟩ 1 1 [.string x] rfl rfl (cell_one_new _ _ _) (by simp [Value.oneCell']) (by unfold maxLen; omega) (by omega) (by have := HS1.out; simp; omega) ?_; intro v' w2 hown2 hgrow2 _ _; have R := Lib.hid (And.intro hown2 hgrow2); clear hown2 hgrow2))
      go_roundw
      case rel =>
        have hb1 : u3.ownBlock ≠ some b ∧ u3.ownBlock ≠ some w.heap.size := by
          rcases HO.out.2 with ⟨rfl, _⟩ | ⟨g, _, _, rfl, hg, _⟩
          · simp [Value.ownBlock]
          · simp [Value.ownBlock]; omega
        have hk2 := HR1.out.kept (World.grownBy.trans (World.grownBy_alloc w1 _ u3.ownBlock) R.out.2) (fun e => hb1.1 e.symm) (fun e => hb1.2 e.symm)
        have hE1 : Ext w (w1.alloc (.cells #[.string x] 9)) := (Only.ext HE.out HG1.out (Nat.le_refl _)).trans' (Ext.alloc' _ _)
        have hE2 : Ext w w2 := ext_grown hE1 (row_low (H1.out.alloc _) (Nat.le_succ _)) R.out.2
        refine ⟨_, cnt1, ks ++ [x], hk2, by simp; omega, ?_, hE2, ?_, ?_, ?_⟩
        · have := R.out.1; simpa using this
        · intro s
          rw [List.mem_append, HK.out s, List.mem_singleton]
          constructor
          · rintro (⟨h1, h2⟩ | rfl)
            · exact ⟨h1, by rw [h2]; rfl⟩
            · exact ⟨HHAS.out, by rw [WideAt.sameKey_self (show WideAt.IsKeyLit (lk s) from trivial)]; simp⟩
          · rintro ⟨h1, h2⟩
            by_cases e : s = x
            · exact Or.inr e
            · refine Or.inl ⟨h1, ?_⟩
              rw [sameKey_ne (fun h => e (lk_inj h))] at h2
              simpa using h2
        · rw [List.nodup_append]
          refine ⟨HN.out, by simp, fun a ha c hc e => ?_⟩
          rw [List.mem_singleton] at hc
          subst hc; subst e
          have := ((HK.out _).1 ha).2
          rw [HLK.out] at this; cases this
        · have := R.out.2.size; have := HS1.out; simp at *; omega
      case measure => rw [World.ranges.left_eq (HR1.out.kept (World.grownBy.trans (World.grownBy_alloc w1 _ u3.ownBlock) R.out.2) (by rcases HO.out.2 with ⟨rfl, _⟩ | ⟨g, _, _, rfl, hg, _⟩; simp [Value.ownBlock]; simp [Value.ownBlock]; omega) (by rcases HO.out.2 with ⟨rfl, _⟩ | ⟨g, _, _, rfl, hg, _⟩; simp [Value.ownBlock]; simp [Value.ownBlock]; omega)), HR.out.left_eq]; exact hlt
end Go.Proofs.YtlpdhpfjcfihoaaGreatDoor

namespace Go.Proofs.YtlpdhpfjcfihoaaGreatDoor
open Go Go.RowKit

set_option maxRecDepth 100000 in
set_option maxHeartbeats 400000 in
theorem tIsSorted (A : Option Addr) (n c : Nat) (l : List Co) (w : World) (hl : l.length = n) (hn : n ≤ 1000000) (h : RecAt w A (l.map Co.pair)) :
    Calls Tryz.prog 160 #[.slice A n c] w (RetQ (.bool (sortedB (l.map Co.s))) w) := by
  have HL := Lib.hid hl; have HP := Lib.hid h
  clear hl h
  go_enter Tryz.func160, Tryz.ntmps160
  go_wp2
  go_loopw [3] (fun i wr => ∃ (k q : Nat), (k ≤ n ∨ k = 1) ∧ 1 ≤ k ∧ i = .int .i64 k ∧ wr = w.drewN q ∧ ∀ j, (hj : j + 1 < l.length) → j + 1 < k → keyLt (Co.s l[j + 1]) (Co.s l[j]) = false) (fun i _ => n + 1 - (intOf i).toNat)
  case atStart => exact ⟨1, 0, Or.inr rfl, Nat.le_refl _, rfl, rfl, fun j _ h => by omega⟩
  case round =>
    obtain ⟨k, q, hk, hk1, rfl, rfl, hq⟩ := hrel
    have HQ := Lib.hid hq; clear hq
    by_cases hlt : k < n
    · obtain ⟨m, rfl⟩ : ∃ m, k = m + 1 := ⟨k - 1, by omega⟩
      have hkl : m + 1 < l.length := by rw [HL.out]; exact hlt
      obtain ⟨s, hs⟩ : ∃ s, s = Co.s l[m] := ⟨_, rfl⟩
      obtain ⟨t, ht⟩ : ∃ t, t = Co.s l[m + 1] := ⟨_, rfl⟩
      obtain ⟨g, o, hA, hc⟩ := HP.out (by intro e; have := congrArg List.length e; simp at this; rw [this] at hkl; simp at hkl)
      subst hA
      have cs0 : w.cell? ⟨g, o + m * 2, none⟩ = some (.string s) := by have := (hc m (by simp; omega)).1; rw [this, hs]; simp [Co.pair]
      have cs1 : w.cell? ⟨g, o + (m + 1) * 2, none⟩ = some (.string t) := by have := (hc (m + 1) (by simpa using hkl)).1; rw [this, ht]; simp [Co.pair]
      have HS := Lib.hid hs; have HT := Lib.hid ht; clear hs ht hc hk
      have b0 : (0 : Int) ≤ (m : Int) := by omega
      have b1 : (m : Int) < (n : Int) := by omega
      have b2 : (m : Int) + 1 < (n : Int) := by omega
      by_cases hgt : keyLt t s = true
      · have g1 : Op.bytesLess s.toList t.toList = false := keyLt_asymm hgt
        have g2 : (s.toList == t.toList) = false := by rw [key_beq]; simp; intro e; subst e; rw [keyLt_irrefl] at hgt; cases hgt
        have F := Lib.hid (show sortedB (l.map Co.s) = false from sortedB_false m (by simpa using hkl) (by simpa [← HS.out, ← HT.out] using hgt))
        clear hgt
        go_wp2
        go_quiet (fail)
        go_wp2
        go_ret
        rw [F.out]; exact ⟨rfl, by first | exact dr1 _ _ | exact dr2 _ _ _⟩
      · have hgt' : keyLt t s = false := by simpa using hgt
        have HG := Lib.hid hgt'
        clear hgt hgt'
        have hh : Op.bytesLess s.toList t.toList = true ∨ s = t := by
          cases e : Op.bytesLess s.toList t.toList
          · exact Or.inr (keyLt_tri e HG.out)
          · exact Or.inl rfl
        have HS' := HS; have HT' := HT
        rcases hh with hh | hh
        · go_wp2
          go_quiet (fail)
          go_wp2
          go_roundw
          case rel =>
            refine ⟨m + 1 + 1, _, by omega, by omega, by go_num, rfl, fun j hj hjk => ?_⟩
            by_cases e : j = m
            · subst e; rw [← HS'.out, ← HT'.out]; exact HG.out
            · exact HQ.out j hj (by omega)
          case measure => simp [intOf]; omega
        · subst hh
          go_wp2
          go_quiet (fail)
          go_wp2
          go_roundw
          case rel =>
            refine ⟨m + 1 + 1, _, by omega, by omega, by go_num, rfl, fun j hj hjk => ?_⟩
            by_cases e : j = m
            · subst e; rw [← HS'.out, ← HT'.out]; exact HG.out
            · exact HQ.out j hj (by omega)
          case measure => simp [intOf]; omega
    · have F := Lib.hid (show sortedB (l.map Co.s) = true from sortedB_true (fun j hj => by simp at hj; simpa using HQ.out j hj (by have := HL.out; omega)))
      go_wp2
      go_ret
      rw [F.out]; exact ⟨rfl, by first | exact dr1 _ _ | exact dr2 _ _ _⟩

set_option maxRecDepth 100000 in
theorem tSorted (A : Option Addr) (n c : Nat) (l : List Co) (w : World) (hl : l.length = n) (hn : n ≤ 1000000) (h : RecAt w A (l.map Co.pair)) :
    Calls Tryz.prog 117 #[.slice A n c] w (RetQ (.bool (sortedB (l.map Co.s))) w) := by
  have H := Lib.hid (tIsSorted A n c l w hl hn h); clear hl hn h
  go_enter Tryz.func117, Tryz.ntmps117
  go_wp2_with (go_at_call 160; refine H.out.mono ?_; rintro e w' ⟨rfl, q, rfl⟩)
  go_ret
  exact ⟨rfl, q, rfl⟩
end Go.Proofs.YtlpdhpfjcfihoaaGreatDoor

namespace Go.Proofs.YtlpdhpfjcfihoaaGreatDoor
open Go Go.RowKit Go.Maps

/-- The coins of one denomination. -/
def ofS (s : ByteArray) (l : List Co) : List Co := l.filter fun c => decide (c.s = s)
theorem ofS_append (s : ByteArray) (l m : List Co) : ofS s (l ++ m) = ofS s l ++ ofS s m := by simp [ofS]
theorem ofS_ne {s : ByteArray} {l : List Co} : ofS s l ≠ [] ↔ ∃ c ∈ l, c.s = s := by
  simp [ofS, List.filter_eq_nil_iff]
theorem ofS_one (s : ByteArray) (c : Co) : ofS s [c] = if c.s = s then [c] else [] := by
  by_cases h : c.s = s <;> simp [ofS, h]
theorem ofS_len (s : ByteArray) (l : List Co) : (ofS s l).length ≤ l.length := by unfold ofS; exact List.length_filter_le _ _
/-- A row of coins of the call's own. -/
def CoRow (w : World) (base : Nat) (v : Value) (l : List Co) : Prop := w.ownsRow base 134 2 v l.length (flat2 (l.map Co.pair))
/-- The coins done so far, by their denominations, in the map of block M; G: where they lie. -/
def Grp (wr : World) (M : Nat) (done : List Co) (G : ByteArray → Value) : Prop :=
  ∃ (D : DataW Value), wr.ownsMap Tryz.prog 9 asIs M done.length D ∧ (∀ s, has D (lk s) = true ↔ ofS s done ≠ []) ∧
    (∀ s, ofS s done ≠ [] → (∀ z, D.atKey (lk s) z = .held (G s)) ∧ CoRow wr (M + 2) (G s) (ofS s done)) ∧
    (∀ s t, ofS s done ≠ [] → ofS t done ≠ [] → s ≠ t → (G s).ownBlock ≠ (G t).ownBlock) ∧ M + 2 ≤ wr.heap.size
/-- What a look-up hands back. -/
def valAt (G : ByteArray → Value) (done : List Co) (s : ByteArray) : Value := if ofS s done = [] then .slice none 0 0 else G s

theorem zeroCoins (w : World) : (zeroValue 92).run Tryz.prog w = .ok (.slice none 0 0) w := by kernel_rfl
theorem ownsMap_of_block {w w' : World} {M n : Nat} {D : DataW Value} (h : w.ownsMap Tryz.prog 9 asIs M n D) (e : w'.heap[M]? = w.heap[M]?) : w'.ownsMap Tryz.prog 9 asIs M n D := by
  obtain ⟨es, clock, hb, r⟩ := h
  exact ⟨es, clock, e.trans hb, r⟩
theorem grp_row {wr : World} {M : Nat} {done : List Co} {G : ByteArray → Value} (h : Grp wr M done G) (s : ByteArray) : CoRow wr (M + 2) (valAt G done s) (ofS s done) := by
  obtain ⟨D, hM, hH, hR, hD, hsz⟩ := h
  unfold valAt
  by_cases e : ofS s done = []
  · rw [if_pos e, e]; exact World.ownsRow_nil _ _ _ _
  · rw [if_neg e]; exact (hR s e).2
set_option maxRecDepth 100000 in
theorem grp_run {wr : World} {M : Nat} {done : List Co} {G : ByteArray → Value} (h : Grp wr M done G) (s : ByteArray) (hs : s.size ≤ maxLen) (W : World) (hW : W.heap[M]? = wr.heap[M]?) :
    (Instr.lookup 193 (.map (some M)) (.string s) false).run Tryz.prog W = .ok (valAt G done s) W := by
  obtain ⟨D, hM, hH, hR, hD, hsz⟩ := h
  obtain ⟨v, ps, hr, hv⟩ := (ownsMap_of_block hM hW).lookup keysK Tryz.underlying193 (zeroCoins W) (show asIs (.slice none 0 0) = some (.held (.slice none 0 0), []) from rfl) (keyOf_str Tryz.underlying9 hs)
  rw [hr]
  unfold asIs at hv; injection hv with hv; injection hv with h1 _
  congr 1
  unfold valAt
  by_cases e : ofS s done = []
  · have hh : has D (lk s) = false := by
      cases k : has D (lk s)
      · rfl
      · exact absurd e ((hH s).1 k)
    rw [atKey_of_not_has hh] at h1
    rw [if_pos e]; injection h1
  · rw [(hR s e).1] at h1
    rw [if_neg e]; injection h1
/-- A row that was appended to, and the map's store behind it. -/
theorem grp_step {wr W1 W2 : World} {M : Nat} {done : List Co} {G : ByteArray → Value} (h : Grp wr M done G) (c : Co) (hs : c.s.size ≤ maxLen) (hd : done.length < 1000) (e : Ext wr W1) {g cap : Nat}
    (hown : W2.ownsRow (M + 2) 134 2 (.slice (some ⟨g, 0, none⟩) ((ofS c.s done).length + 1) cap) ((ofS c.s done).length + 1) (flat2 ((ofS c.s done).map Co.pair) ++ [.string c.s, .pointer (some ⟨c.b, 0, none⟩)]))
    (hg : W1.grownBy W2 (valAt G done c.s).ownBlock) (hb : (valAt G done c.s).ownBlock = some g ∨ g = W1.heap.size) :
    ∃ W3 G', (Instr.mapUpdate 193 (.map (some M)) (.string c.s) (.slice (some ⟨g, 0, none⟩) ((ofS c.s done).length + 1) cap)).run Tryz.prog W2 = .ok () W3 ∧ Grp W3 M (done ++ [c]) G' ∧
      (∀ i, i < M + 2 → i ≠ M → W3.heap[i]? = wr.heap[i]?) ∧ W3.os = wr.os ∧ W3.tape = wr.tape ∧ W3.output = wr.output ∧ wr.heap.size ≤ W3.heap.size ∧ W2.grownBy W3 (some M) := by
  have hrow := grp_row h c.s
  obtain ⟨D, hM, hH, hR, hD, hsz⟩ := h
  have hvb : ∀ i, (valAt G done c.s).ownBlock = some i → M + 2 ≤ i := by
    intro i hi
    rcases hrow.2 with ⟨hv, _⟩ | ⟨g', _, _, hv, hge, _⟩
    · rw [hv] at hi; simp [Value.ownBlock] at hi
    · rw [hv] at hi; simp [Value.ownBlock] at hi; omega
  have hM2 : W2.ownsMap Tryz.prog 9 asIs M done.length D := by
    refine ownsMap_of_block hM ?_
    rw [hg.block M (by have := e.size; omega) (fun k => by have := hvb M k.symm; omega), e.block M (by omega)]
  obtain ⟨W3, hrun, hM3, hg3⟩ := hM2.update keysK Tryz.underlying193 (by unfold maxLen; omega) (keyOf_str Tryz.underlying9 hs) (show asIs (.slice (some ⟨g, 0, none⟩) ((ofS c.s done).length + 1) cap) = some (.held (.slice (some ⟨g, 0, none⟩) ((ofS c.s done).length + 1) cap), []) from rfl)
  obtain ⟨G', hG1, hG2⟩ : ∃ G' : ByteArray → Value, G' c.s = .slice (some ⟨g, 0, none⟩) ((ofS c.s done).length + 1) cap ∧ ∀ t, t ≠ c.s → G' t = G t :=
    ⟨fun t => if t = c.s then .slice (some ⟨g, 0, none⟩) ((ofS c.s done).length + 1) cap else G t, if_pos rfl, fun t h => if_neg h⟩
  have hkey : WideAt.IsKeyLit (lk c.s) := trivial
  refine ⟨W3, G', hrun, ?_, ?_, ?_, ?_, ?_, ?_, hg3⟩
  · have hlt : ∀ t, ofS t done ≠ [] → ∀ i, (G t).ownBlock = some i → M + 2 ≤ i ∧ i < wr.heap.size := by
      intro t ht i hi
      rcases (hR t ht).2.2 with ⟨hv, _⟩ | ⟨g', _, _, hv, hge, hgb, _⟩
      · rw [hv] at hi; simp [Value.ownBlock] at hi
      · rw [hv] at hi; simp [Value.ownBlock] at hi; subst hi; exact ⟨hge, (Array.getElem?_eq_some_iff.1 hgb).1⟩
    have hgM : M + 2 ≤ g := by
      rcases hb with hb | hb
      · exact hvb g hb
      · have := e.size; omega
    have hgne : ∀ t, ofS t done ≠ [] → t ≠ c.s → (G t).ownBlock ≠ some g := by
      intro t ht hts k
      have h1 := hlt t ht g k
      rcases hb with hb | hb
      · by_cases e0 : ofS c.s done = []
        · unfold valAt at hb; rw [if_pos e0] at hb; simp [Value.ownBlock] at hb
        · unfold valAt at hb; rw [if_neg e0] at hb
          exact hD t c.s ht e0 hts (k.trans hb.symm)
      · have := e.size; omega
    have hold : ∀ t, t ≠ c.s → ofS t (done ++ [c]) = ofS t done := by
      intro t ht
      rw [ofS_append, ofS_one, if_neg (fun k => ht k.symm), List.append_nil]
    have hnew : ofS c.s (done ++ [c]) = ofS c.s done ++ [c] := by rw [ofS_append, ofS_one, if_pos rfl]
    refine ⟨D.put (lk c.s) (.held (.slice (some ⟨g, 0, none⟩) ((ofS c.s done).length + 1) cap)), by simpa using hM3, ?_, ?_, ?_, ?_⟩
    · intro s
      by_cases hsc : s = c.s
      · subst hsc; rw [hnew]
        exact ⟨fun _ => by simp, fun _ => has_put_same hM2.isMap hkey _⟩
      · rw [hold s hsc, has_put_other (fun k => hsc (lk_inj k))]; exact hH s
    · intro s hs'
      by_cases hsc : s = c.s
      · subst hsc
        refine ⟨fun z => by rw [hG1]; exact atKey_put_same hM2.isMap hkey _ _, ?_⟩
        rw [hG1, hnew]
        unfold CoRow
        rw [List.length_append, List.map_append, flat2_append]
        exact hown.kept hg3 (Or.inr (by simp [Value.ownBlock]; omega))
      · rw [hold s hsc] at hs' ⊢
        refine ⟨fun z => by rw [hG2 s hsc, atKey_put_other (fun k => hsc (lk_inj k))]; exact (hR s hs').1 z, ?_⟩
        rw [hG2 s hsc]
        have r1 := owns_ext (hR s hs').2 e
        have r2 := r1.kept hg (by
          by_cases e0 : ofS c.s done = []
          · have : (valAt G done c.s).ownBlock = none := by unfold valAt; rw [if_pos e0]; rfl
            rw [this]; exact (Classical.em ((G s).ownBlock = none))
          · have : valAt G done c.s = G c.s := by unfold valAt; rw [if_neg e0]
            rw [this]; exact Or.inr (hD s c.s hs' e0 hsc))
        exact r2.kept hg3 (Or.inr (fun k => by have := hlt s hs' M k; omega))
    · intro s t hs' ht' hst
      by_cases hsc : s = c.s
      · have htc : t ≠ c.s := fun k => hst (hsc.trans k.symm)
        rw [hold t htc] at ht'
        subst hsc
        rw [hG1, hG2 t htc]
        intro k; exact hgne t ht' htc k.symm
      · rw [hold s hsc] at hs'
        by_cases htc : t = c.s
        · subst htc; rw [hG2 s hsc, hG1]; exact hgne s hs' hsc
        · rw [hold t htc] at ht'
          rw [hG2 s hsc, hG2 t htc]; exact hD s t hs' ht' hst
    · exact Nat.le_trans hsz (Nat.le_trans e.size (Nat.le_trans hg.size hg3.size))
  · intro i hi hne
    rw [hg3.block i (by have := hg.size; have := e.size; omega) (fun k => hne (Option.some.inj k)), hg.block i (by have := e.size; omega) (fun k => by have := hvb i k.symm; omega), e.block i (by omega)]
  · exact hg3.os.trans (hg.os.trans e.os)
  · exact hg3.tape.trans (hg.tape.trans e.tape)
  · exact hg3.output.trans (hg.output.trans e.output)
  · exact Nat.le_trans e.size (Nat.le_trans hg.size hg3.size)
/-- All that the round's walk wants of the append and of the store. -/
theorem grp_arm {w wr W W2 : World} {done : List Co} {G : ByteArray → Value} (h : Grp wr w.heap.size done G) (hE : Ext w wr) (c : Co) (hs : c.s.size ≤ maxLen) (hd : done.length < 50) (e : Ext wr W) {kk g cap : Nat} (hkk : kk = (ofS c.s done).length)
    {v a0 a1 : Value} (hv : v = valAt G done c.s)
    (hown : W2.ownsRow (w.heap.size + 2) 134 2 (.slice (some ⟨g, 0, none⟩) (kk + 1) cap) (kk + 1) (flat2 ((ofS c.s done).map Co.pair) ++ [.string c.s, .pointer (some ⟨c.b, 0, none⟩)]))
    (hg : W.grownBy W2 v.ownBlock) (hb : v.ownBlock = some g ∨ g = W.heap.size) (s0 : W.cell? ⟨wr.heap.size, 0, none⟩ = some a0) (s1 : W.cell? ⟨wr.heap.size, 1, none⟩ = some a1) :
    (W2.cell? ⟨wr.heap.size, 0, none⟩ = some a0 ∧ W2.cell? ⟨wr.heap.size, 1, none⟩ = some a1) ∧
    ∃ W3 G3, (Instr.mapUpdate 193 (.map (some w.heap.size)) (.string c.s) (.slice (some ⟨g, 0, none⟩) (kk + 1) cap)).run Tryz.prog W2 = .ok () W3 ∧ Grp W3 w.heap.size (done ++ [c]) G3 ∧ Ext w W3 ∧
      W3.heap[w.heap.size + 1]? = wr.heap[w.heap.size + 1]? ∧ (W3.cell? ⟨wr.heap.size, 0, none⟩ = some a0 ∧ W3.cell? ⟨wr.heap.size, 1, none⟩ = some a1) := by
  subst hkk; subst hv
  have hrow := grp_row h c.s
  have hM : w.heap.size + 2 ≤ wr.heap.size := by obtain ⟨_, _, _, _, _, k⟩ := h; exact k
  have hne : (valAt G done c.s).ownBlock ≠ some wr.heap.size := by
    rcases hrow.2 with ⟨hv, _⟩ | ⟨g', _, _, hv, hge, hgb, _⟩
    · rw [hv]; simp [Value.ownBlock]
    · rw [hv]; simp [Value.ownBlock]
      have := (Array.getElem?_eq_some_iff.1 hgb).1; omega
  have t0 := (hg.cell_far ⟨wr.heap.size, 0, none⟩ (cell_lt s0) (fun k => hne k.symm)).trans s0
  have t1 := (hg.cell_far ⟨wr.heap.size, 1, none⟩ (cell_lt s1) (fun k => hne k.symm)).trans s1
  obtain ⟨W3, G3, h1, h2, h3, h4, h5, h6, h7, h8⟩ := grp_step h c hs (by omega) e hown hg hb
  refine ⟨⟨t0, t1⟩, W3, G3, h1, h2, ⟨h4.trans hE.os, h5.trans hE.tape, h6.trans hE.output, Nat.le_trans hE.size h7, fun i hi => (h3 i (by omega) (by omega)).trans (hE.block i hi)⟩, h3 _ (by omega) (by omega), ?_, ?_⟩
  · exact (h8.cell_far ⟨wr.heap.size, 0, none⟩ (cell_lt t0) (fun k => by have := Option.some.inj k; simp at this; omega)).trans t0
  · exact (h8.cell_far ⟨wr.heap.size, 1, none⟩ (cell_lt t1) (fun k => by have := Option.some.inj k; simp at this; omega)).trans t1
theorem grp_start (w : World) {W : World} (hM : W.heap[w.heap.size]? = some (.map #[] 0)) (hs : w.heap.size + 2 ≤ W.heap.size) (G : ByteArray → Value) : Grp W w.heap.size [] G :=
  ⟨.map [], ownsMap_of_block (w := w.alloc (.map #[] 0)) (World.ownsMap_made _ _ _ _) (by rw [hM, heap_alloc_new]), fun s => by simp [ofS, has], fun s h => absurd rfl h, fun s t h => absurd rfl h, hs⟩
end Go.Proofs.YtlpdhpfjcfihoaaGreatDoor
