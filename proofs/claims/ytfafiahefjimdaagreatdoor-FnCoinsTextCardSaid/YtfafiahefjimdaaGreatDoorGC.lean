/-
  The order of texts by their bytes: a strict total order. Plain.
  Plain laws of the insertion sort by exchanges of neighbours: its relation, and what it comes to.
  Lists of records of two cells in memory; lists of coins.
  Contracts of the loops that turn lists: impl.backCoins, laws.sumTo, laws.sumFrom.
-/
import Derived.Test.YtfafiahefjimdaaGreatDoorGA
import Derived.Lib.SmallJoins
import Derived.WideShapes
import Derived.Lib.Strings
import Derived.Test.YtfafiahefjimdaaGreatDoorGB
import Derived.Deep.LoopGhost
import Derived.Deep.AppendLies
namespace Go.Proofs.YtfafiahefjimdaaGreatDoor
open Go Go.RowKit

def keyLt (a b : ByteArray) : Bool := Op.bytesLess a.toList b.toList
theorem bytesLess_lt : ∀ (x y : List UInt8), Op.bytesLess x y = decide (x < y)
  | [], [] => by simp [Op.bytesLess]
  | _ :: _, [] => by simp [Op.bytesLess]
  | [], _ :: _ => by simp [Op.bytesLess]
  | a :: x, b :: y => by
    rw [Op.bytesLess, bytesLess_lt x y]
    simp only [List.cons_lt_cons_iff]
    by_cases h1 : a < b <;> by_cases h2 : a = b <;> by_cases h3 : x < y <;> simp [h1, h2, h3]
theorem keyLt_iff (a b : ByteArray) : keyLt a b = true ↔ a.toList < b.toList := by unfold keyLt; rw [bytesLess_lt]; simp
theorem key_ext {a b : ByteArray} (h : a.toList = b.toList) : a = b := by
  rw [Lib.toList_data, Lib.toList_data] at h
  exact WideShapes.bytes_inj h
theorem keyLt_irrefl (a : ByteArray) : keyLt a a = false := by
  rw [Bool.eq_false_iff]; intro h
  exact List.lt_irrefl _ ((keyLt_iff _ _).1 h)
theorem keyLt_trans {a b c : ByteArray} (h : keyLt a b = true) (k : keyLt b c = true) : keyLt a c = true :=
  (keyLt_iff _ _).2 (List.lt_trans ((keyLt_iff _ _).1 h) ((keyLt_iff _ _).1 k))
theorem keyLt_asymm {a b : ByteArray} (h : keyLt a b = true) : keyLt b a = false := by
  rw [Bool.eq_false_iff]; intro k
  have := keyLt_trans h k
  rw [keyLt_irrefl] at this; cases this
theorem keyLt_tri {a b : ByteArray} (h : keyLt a b = false) (k : keyLt b a = false) : a = b := by
  refine key_ext ?_
  have h1 : ¬ a.toList < b.toList := fun e => by rw [(keyLt_iff _ _).2 e] at h; cases h
  have h2 : ¬ b.toList < a.toList := fun e => by rw [(keyLt_iff _ _).2 e] at k; cases k
  exact List.le_antisymm (List.not_lt.1 h2) (List.not_lt.1 h1)
theorem key_beq (a b : ByteArray) : (a.toList == b.toList) = decide (a = b) := by
  by_cases h : a = b
  · subst h; simp
  · have : a.toList ≠ b.toList := fun e => h (key_ext e)
    simp [h, this]
/-- Go's '>' on texts. -/
def keyGt (a b : ByteArray) : Bool := !(Op.bytesLess a.toList b.toList) && !(a.toList == b.toList)
theorem keyGt_eq (a b : ByteArray) : keyGt a b = keyLt b a := by
  unfold keyGt
  rw [key_beq, show Op.bytesLess a.toList b.toList = keyLt a b from rfl]
  by_cases e : a = b
  · subst e; simp [keyLt_irrefl]
  · cases h : keyLt a b
    · cases k : keyLt b a
      · exact absurd (keyLt_tri h k) e
      · simp [e]
    · simp [keyLt_asymm h]

/-- Names that do not fall. -/
def sortedB : List ByteArray → Bool
  | a :: b :: r => !keyLt b a && sortedB (b :: r)
  | _ => true
theorem sortedB_true {l : List ByteArray} (h : ∀ j, (hj : j + 1 < l.length) → keyLt l[j + 1] l[j] = false) : sortedB l = true := by
  induction l with
  | nil => rfl
  | cons a l ih =>
    cases l with
    | nil => rfl
    | cons b r =>
      have h0 := h 0 (by simp)
      simp only [List.getElem_cons_succ, List.getElem_cons_zero] at h0
      simp only [sortedB, h0, Bool.not_false, Bool.true_and]
      exact ih (fun j hj => h (j + 1) (Nat.succ_lt_succ hj))
theorem sortedB_get {l : List ByteArray} (h : sortedB l = true) : ∀ j, (hj : j + 1 < l.length) → keyLt l[j + 1] l[j] = false := by
  induction l with
  | nil => intro j hj; simp at hj
  | cons a l ih =>
    cases l with
    | nil => intro j hj; simp at hj
    | cons b r =>
      simp only [sortedB, Bool.and_eq_true, Bool.not_eq_true'] at h
      intro j hj
      cases j with
      | zero => simpa using h.1
      | succ j => exact ih h.2 j (Nat.lt_of_succ_lt_succ hj)
theorem sortedB_false {l : List ByteArray} (j : Nat) (hj : j + 1 < l.length) (h : keyLt l[j + 1] l[j] = true) : sortedB l = false := by
  rw [Bool.eq_false_iff]; intro k
  rw [sortedB_get k j hj] at h; cases h
end Go.Proofs.YtfafiahefjimdaaGreatDoor

namespace Go.Proofs.YtfafiahefjimdaaGreatDoor
open Go Go.RowKit

/-- Not above. -/
def le (a b : ByteArray) : Prop := keyLt b a = false
theorem le_refl (a : ByteArray) : le a a := keyLt_irrefl a
theorem le_trans {a b c : ByteArray} (h : le a b) (k : le b c) : le a c := by
  unfold le at *
  cases e : keyLt c a
  · rfl
  · exfalso
    cases f : keyLt a b
    · rw [keyLt_tri f h] at e; rw [e] at k; cases k
    · rw [keyLt_trans e f] at k; cases k
theorem le_of_lt {a b : ByteArray} (h : keyLt a b = true) : le a b := keyLt_asymm h
theorem le_antisymm {a b : ByteArray} (h : le a b) (k : le b a) : a = b := keyLt_tri k h
theorem key_lt_of_le_ne {a b : ByteArray} (h : le a b) (hn : a ≠ b) : keyLt a b = true := by
  cases e : keyLt a b
  · exact absurd (keyLt_tri e h) hn
  · rfl
theorem key_lt_of_lt_of_le {a b c : ByteArray} (h : keyLt a b = true) (k : le b c) : keyLt a c = true := by
  by_cases e : b = c
  · subst e; exact h
  · exact keyLt_trans h (key_lt_of_le_ne k e)

section
variable {α : Type}
/-- The neighbours at j and j + 1 exchanged. -/
def swp : List α → Nat → List α
  | a :: b :: t, 0 => b :: a :: t
  | a :: t, j + 1 => a :: swp t j
  | l, _ => l
theorem swp_perm : ∀ (l : List α) (j : Nat), (swp l j).Perm l
  | [], _ => by unfold swp; exact List.Perm.refl _
  | [a], 0 => by simp [swp]
  | [a], j + 1 => by unfold swp; exact List.Perm.cons _ (swp_perm [] j)
  | a :: b :: t, 0 => List.Perm.swap _ _ _
  | a :: b :: t, j + 1 => List.Perm.cons _ (swp_perm (b :: t) j)
theorem swp_length (l : List α) (j : Nat) : (swp l j).length = l.length := (swp_perm l j).length_eq
theorem swp_get? : ∀ (l : List α) (j : Nat), j + 1 < l.length → ∀ p, (swp l j)[p]? = if p = j then l[j + 1]? else if p = j + 1 then l[j]? else l[p]?
  | a :: b :: t, 0, _, p => by
    match p with
    | 0 => simp [swp]
    | 1 => simp [swp]
    | p + 2 => simp [swp]
  | a :: t, j + 1, h, p => by
    unfold swp
    match p with
    | 0 => simp
    | p + 1 =>
      simp only [List.getElem?_cons_succ]
      rw [swp_get? t j (by simpa using h) p]
      simp
  | [a], 0, h, _ => by simp at h
  | [], _, h, _ => by simp at h
theorem swp_get (l : List α) (j : Nat) (h : j + 1 < l.length) (p : Nat) (hp : p < l.length) :
    (swp l j)[p]'(by rw [swp_length]; exact hp) = if p = j then l[j + 1] else if p = j + 1 then l[j] else l[p] := by
  have := swp_get? l j h p
  rw [List.getElem?_eq_getElem (by rw [swp_length]; exact hp)] at this
  by_cases e : p = j
  · rw [if_pos e, List.getElem?_eq_getElem h] at this; rw [if_pos e]; exact Option.some.inj this
  · rw [if_neg e] at this; rw [if_neg e]
    by_cases f : p = j + 1
    · rw [if_pos f, List.getElem?_eq_getElem (by omega)] at this; rw [if_pos f]; exact Option.some.inj this
    · rw [if_neg f, List.getElem?_eq_getElem hp] at this; rw [if_neg f]; exact Option.some.inj this
theorem swp_map {β : Type} (f : α → β) : ∀ (l : List α) (j : Nat), (swp l j).map f = swp (l.map f) j
  | [], _ => by simp [swp]
  | [a], 0 => by simp [swp]
  | [a], j + 1 => by simp [swp]
  | a :: b :: t, 0 => by simp [swp]
  | a :: b :: t, j + 1 => by simp [swp, swp_map f (b :: t) j]
/-- The exchange as two stores. -/
theorem swp_set (l : List α) (j : Nat) (h : j + 1 < l.length) : swp l j = (l.set (j + 1) l[j]).set j l[j + 1] := by
  apply List.ext_getElem?
  intro p
  rw [swp_get? l j h p, List.getElem?_set, List.getElem?_set]
  by_cases e : j = p
  · subst e; simp [List.getElem?_eq_getElem h]; omega
  · by_cases f : j + 1 = p
    · subst f
      rw [if_neg (by omega), if_pos rfl, if_neg (by omega), if_pos rfl, if_pos h, List.getElem?_eq_getElem (by omega)]
    · rw [if_neg (by omega), if_neg (by omega), if_neg e, if_neg f]

variable (key : α → ByteArray)
/-- The first i are in order. -/
def InsO (L0 L : List α) (i : Nat) : Prop := L.Perm L0 ∧ ∀ p q, (hq : q < L.length) → (h : p < q) → q < i → le (key L[p]) (key L[q])
/-- The first i + 1 are in order but for the one at j, which is not above those behind it. -/
def InsI (L0 L : List α) (i j : Nat) : Prop := L.Perm L0 ∧ j ≤ i ∧ i < L.length ∧ (∀ p q, (hq : q < L.length) → (h : p < q) → q ≤ i → q ≠ j → p ≠ j → le (key L[p]) (key L[q])) ∧
  ∀ q, (hq : q < L.length) → (h : j < q) → q ≤ i → le (key L[j]) (key L[q])
variable {key}
theorem insO_start (L : List α) : InsO key L L 1 := ⟨List.Perm.refl _, fun p q _ h k => by omega⟩
theorem insO_in {L0 L : List α} {i : Nat} (h : InsO key L0 L i) (hi : i < L.length) : InsI key L0 L i i :=
  ⟨h.1, Nat.le_refl _, hi, fun p q hq hpq h1 h2 _ => h.2 p q hq hpq (by omega), fun q hq h1 h2 => by omega⟩
theorem insI_out0 {L0 L : List α} {i : Nat} (h : InsI key L0 L i 0) : InsO key L0 L (i + 1) :=
  ⟨h.1, fun p q hq hpq h1 => by
    by_cases e : p = 0
    · subst e; exact h.2.2.2.2 q hq hpq (by omega)
    · exact h.2.2.2.1 p q hq hpq (by omega) (by omega) e⟩
theorem insI_out {L0 L : List α} {i j : Nat} (h : InsI key L0 L i (j + 1)) (hj : j + 1 < L.length) (hle : keyLt (key L[j + 1]) (key L[j]) = false) : InsO key L0 L (i + 1) :=
  ⟨h.1, fun p q hq hpq h1 => by
    obtain ⟨_, hji, hi, ha, hb⟩ := h
    by_cases e : p = j + 1
    · subst e; exact hb q hq hpq (by omega)
    · by_cases f : q = j + 1
      · subst f
        by_cases g : p = j
        · subst g; exact hle
        · exact le_trans (ha p j (by omega) (by omega) (by omega) (by omega) e) hle
      · exact ha p q hq hpq (by omega) f e⟩
theorem insI_swp {L0 L : List α} {i j : Nat} (h : InsI key L0 L i (j + 1)) (hj : j + 1 < L.length) (hlt : keyLt (key L[j + 1]) (key L[j]) = true) : InsI key L0 (swp L j) i j := by
  obtain ⟨hP, hji, hi, ha, hb⟩ := h
  have hl := swp_length L j
  refine ⟨(swp_perm L j).trans hP, by omega, by omega, fun p q hq hpq h1 h2 h3 => ?_, fun q hq h1 h2 => ?_⟩
  · rw [swp_get L j hj p (by omega), swp_get L j hj q (by omega), if_neg h3, if_neg h2]
    by_cases e : p = j + 1
    · rw [if_pos e, if_neg (by omega)]
      exact ha j q (by omega) (by omega) h1 (by omega) (by omega)
    · rw [if_neg e]
      by_cases f : q = j + 1
      · rw [if_pos f]; exact ha p j (by omega) (by omega) (by omega) (by omega) e
      · rw [if_neg f]; exact ha p q (by omega) hpq h1 f e
  · rw [swp_get L j hj q (by omega), swp_get L j hj j (by omega), if_pos rfl, if_neg (by omega)]
    by_cases f : q = j + 1
    · rw [if_pos f]; exact le_of_lt hlt
    · rw [if_neg f]; exact hb q (by omega) (by omega) h2
/-- In order: each not above the next ones. -/
def Asc (L : List α) : Prop := L.Pairwise fun a b => le (key a) (key b)
theorem insO_end {L0 L : List α} {i : Nat} (h : InsO key L0 L i) (hi : L.length ≤ i) : L.Perm L0 ∧ L.Pairwise fun a b => le (key a) (key b) :=
  ⟨h.1, List.pairwise_iff_getElem.2 fun p q hp hq hpq => h.2 p q hq hpq (by omega)⟩
/-- In order is one way only, where no key stands twice. -/
theorem asc_unique {L M : List α} (hP : L.Perm M) (hL : L.Pairwise fun a b => le (key a) (key b)) (hM : M.Pairwise fun a b => keyLt (key a) (key b) = true) : L = M := by
  have hd : ∀ a b, a ∈ L → b ∈ M → key a = key b → a = b := by
    intro a b ha hb e
    have ha' := hP.mem_iff.1 ha
    obtain ⟨p, hp, rfl⟩ := List.getElem_of_mem ha'
    obtain ⟨q, hq, rfl⟩ := List.getElem_of_mem hb
    have hM' := List.pairwise_iff_getElem.1 hM
    rcases Nat.lt_trichotomy p q with h | h | h
    · have := hM' p q hp hq h; rw [e, keyLt_irrefl] at this; cases this
    · subst h; rfl
    · have := hM' q p hq hp h; rw [e, keyLt_irrefl] at this; cases this
  exact List.Perm.eq_of_pairwise (le := fun a b => le (key a) (key b)) (fun a b ha hb h1 h2 => hd a b ha hb (le_antisymm h1 h2)) hL (hM.imp fun h => le_of_lt h) hP
end
end Go.Proofs.YtfafiahefjimdaaGreatDoor

namespace Go.Proofs.YtfafiahefjimdaaGreatDoor
open Go Go.RowKit

/-- The cells of records of two. -/
def flat2 (l : List (Value × Value)) : List Value := l.flatMap fun p => [p.1, p.2]
theorem flat2_length (l : List (Value × Value)) : (flat2 l).length = l.length * 2 := by
  unfold flat2
  induction l with
  | nil => rfl
  | cons a l ih => simp only [List.flatMap_cons, List.length_append, ih, List.length_cons, List.length_nil]; omega
theorem flat2_append (l m : List (Value × Value)) : flat2 (l ++ m) = flat2 l ++ flat2 m := by simp [flat2]
theorem flat2_get (l : List (Value × Value)) (j : Nat) (h : j < l.length) : (flat2 l)[j * 2]? = some l[j].1 ∧ (flat2 l)[j * 2 + 1]? = some l[j].2 := by
  induction l generalizing j with
  | nil => simp at h
  | cons a l ih =>
    cases j with
    | zero => exact ⟨rfl, rfl⟩
    | succ j =>
      have := ih j (by simpa using h)
      refine ⟨?_, ?_⟩
      · rw [show (j + 1) * 2 = j * 2 + 1 + 1 by omega]; simpa [flat2] using this.1
      · rw [show (j + 1) * 2 + 1 = j * 2 + 1 + 1 + 1 by omega]; simpa [flat2] using this.2

/-- A slice value whose records are ps. -/
def RecAt (w : World) (A : Option Addr) (ps : List (Value × Value)) : Prop :=
  ps ≠ [] → ∃ g o, A = some ⟨g, o, none⟩ ∧ ∀ j (h : j < ps.length), w.cell? ⟨g, o + j * 2, none⟩ = some ps[j].1 ∧ w.cell? ⟨g, o + j * 2 + 1, none⟩ = some ps[j].2
theorem RecAt.ext {w w' : World} {A : Option Addr} {ps : List (Value × Value)} (h : RecAt w A ps) (e : Ext w w') : RecAt w' A ps := fun hn => by
  obtain ⟨g, o, ha, hc⟩ := h hn
  exact ⟨g, o, ha, fun j hj => ⟨e.cell' (hc j hj).1, e.cell' (hc j hj).2⟩⟩
theorem RecAt.nil (w : World) (A : Option Addr) : RecAt w A [] := fun h => absurd rfl h
theorem recAt_of_owns {w : World} {base : Nat} {E : TypeId} {A : Option Addr} {c : Nat} {ps : List (Value × Value)} {n : Nat} (hl : ps.length = n) (h : w.ownsRow base E 2 (.slice A n c) n (flat2 ps)) : RecAt w A ps := fun hn => by
  have hp : 0 < ps.length := List.length_pos_iff.2 hn
  obtain ⟨g, cap, hv, _, _⟩ := h.form (by omega)
  have hA : A = some ⟨g, 0, none⟩ := by injection hv
  subst hA
  have hc := h.cells (g := g) rfl
  refine ⟨g, 0, rfl, fun j hj => ?_⟩
  have h2 := flat2_get ps j hj
  have c1 := hc (j * 2) _ h2.1
  have c2 := hc (j * 2 + 1) _ h2.2
  refine ⟨?_, ?_⟩
  · simp only [Addr.add] at c1; split at c1 <;> simp_all
  · simp only [Addr.add] at c2; split at c2 <;> simp_all

/-- A coin as it lies in memory: its text, the block of its amount, the amount. -/
structure Co where
  s : ByteArray
  b : Nat
  z : Int
def Co.pair (c : Co) : Value × Value := (.string c.s, .pointer (some ⟨c.b, 0, none⟩))
def Co.val (c : Co) : ByteArray × Int := (c.s, c.z)
def plain (x : ByteArray × Int) : Value × Value := (.string x.1, .int .i64 x.2)
def PlainAt (w : World) (A : Option Addr) (l : List (ByteArray × Int)) : Prop := RecAt w A (l.map plain)
/-- The amounts of coins lie in memory. -/
def Bigs (w : World) (cs : List Co) : Prop := ∀ c ∈ cs, BigAt w c.b c.z
def CoinsAt (w : World) (A : Option Addr) (cs : List Co) : Prop := RecAt w A (cs.map Co.pair) ∧ Bigs w cs
theorem PlainAt.ext {w w' : World} {A : Option Addr} {l : List (ByteArray × Int)} (h : PlainAt w A l) (e : Ext w w') : PlainAt w' A l := RecAt.ext h e
theorem Bigs.ext {w w' : World} {cs : List Co} (h : Bigs w cs) (e : Ext w w') : Bigs w' cs := fun c hc => (h c hc).ext e
theorem CoinsAt.ext {w w' : World} {A : Option Addr} {cs : List Co} (h : CoinsAt w A cs) (e : Ext w w') : CoinsAt w' A cs := ⟨h.1.ext e, h.2.ext e⟩

/-- Coins in a row of the call's own. -/
def CoinsOwn (w : World) (base : Nat) (v : Value) (cs : List Co) : Prop := w.ownsRow base 152 2 v cs.length (flat2 (cs.map Co.pair)) ∧ Bigs w cs
theorem CoinsOwn.nil (w : World) (base : Nat) : CoinsOwn w base (.slice none 0 0) [] := ⟨World.ownsRow_nil _ _ _ _, fun _ h => by cases h⟩
theorem BigAt.grown {w w' : World} {b : Nat} {z : Int} {base n : Nat} {E : TypeId} {k : Nat} {v : Value} {xs : List Value} (h : BigAt w b z) (ho : w.ownsRow base E k v n xs) (hg : w.grownBy w' v.ownBlock) (h1 : 221 ≠ E := by decide) (h2 : 173 ≠ E := by decide) : BigAt w' b z := by
  rcases ho.2 with ⟨rfl, _⟩ | ⟨g, cap, cur, rfl, _, hh, _⟩
  · exact h.ext ⟨hg.os, hg.tape, hg.output, hg.size, fun i hi => hg.block i hi (by simp [Value.ownBlock])⟩
  · have hb : Blk w g E cur.toList := hh
    exact h.only (g := g) hg hb h1 h2

theorem owns_ext {w w' : World} {base n k : Nat} {E : TypeId} {v : Value} {xs : List Value} (h : w.ownsRow base E k v n xs) (e : Ext w w') : w'.ownsRow base E k v n xs := by
  refine ⟨h.1, ?_⟩
  rcases h.2 with h2 | ⟨g, cap, cur, hv, hg, hh, r⟩
  · exact Or.inl h2
  · exact Or.inr ⟨g, cap, cur, hv, hg, (e.block g (Array.getElem?_eq_some_iff.1 hh).1).trans hh, r⟩
theorem CoinsOwn.ext {w w' : World} {base : Nat} {v : Value} {cs : List Co} (h : CoinsOwn w base v cs) (e : Ext w w') : CoinsOwn w' base v cs := ⟨owns_ext h.1 e, h.2.ext e⟩
theorem ext_grown {w w1 w2 : World} {n k : Nat} {E : TypeId} {v : Value} {xs : List Value} (e : Ext w w1) (h : w1.ownsRow w.heap.size E k v n xs) (hg : w1.grownBy w2 v.ownBlock) : Ext w w2 :=
  Below.grown e hg e.size (fun g hv => (h.lt g hv).1)
/-- One coin more in a row of the call's own. -/
theorem coins_push {w w1 w2 : World} {v v' : Value} {cs : List Co} {s : ByteArray} {b : Nat} {z : Int} (h : CoinsOwn w1 w.heap.size v cs) (hB : BigAt w1 b z) (e : Ext w w1)
    (hown : w2.ownsRow w.heap.size 152 2 v' (cs.length + 1) (flat2 (cs.map Co.pair) ++ [.string s, .pointer (some ⟨b, 0, none⟩)])) (hg : w1.grownBy w2 v.ownBlock) :
    CoinsOwn w2 w.heap.size v' (cs ++ [⟨s, b, z⟩]) ∧ Ext w w2 := by
  refine ⟨⟨?_, fun c hc => ?_⟩, ext_grown e h.1 hg⟩
  · rw [List.length_append, List.map_append, flat2_append]; exact hown
  · rcases List.mem_append.1 hc with hc | hc
    · exact (h.2 c hc).grown h.1 hg
    · simp at hc; subst hc; exact hB.grown h.1 hg
theorem two_one (a b : Value) (ha : a.oneCell' = true) (hb : b.oneCell' = true) : ∀ u ∈ [a, b], u.oneCell' = true := by
  intro u hu
  simp at hu
  rcases hu with rfl | rfl <;> assumption

theorem infoCoin : (Tryz.prog.info? 152).map (fun i => (i.zero, i.size, i.bytes)) = some (some (.agg #[.string ByteArray.empty, .pointer none]), 2, 24) := by kernel_rfl
theorem infoPlan : (Tryz.prog.info? 55).map (fun i => (i.zero, i.size, i.bytes)) = some (some (.agg #[.string ByteArray.empty, .int .i64 0]), 2, 24) := by kernel_rfl

/-- Coins handed back. -/
def RetCoins (l : List (ByteArray × Int)) (w : World) (e : Ending) (w' : World) : Prop :=
  ∃ v cs, e = .returned v ∧ cs.map Co.val = l ∧ CoinsOwn w' w.heap.size v cs ∧ Ext w w'

set_option maxRecDepth 100000 in
set_option maxHeartbeats 400000 in
theorem iCoins (A : Option Addr) (n c : Nat) (l : List (ByteArray × Int)) (w : World) (hl : l.length = n) (hn : n ≤ 1000000) (h : PlainAt w A l) (hz : ∀ x ∈ l, -maxI ≤ x.2 ∧ x.2 ≤ maxI) :
    Calls Tryz.prog 111 #[.slice A n c] w (RetCoins l w) := by
  obtain ⟨i0, hi, hz0, hz1, hz2⟩ := info_parts infoCoin
  have HL := Lib.hid hl; have HP := Lib.hid h; have HZ := Lib.hid hz
  clear hl h hz
  go_enter Tryz.func111, Tryz.ntmps111
  go_wp2
  go_loopw [3, 8] (fun v i wr => ∃ (k : Nat) (cs : List Co), k ≤ n ∧ i = .int .i64 k ∧ cs.length = k ∧ cs.map Co.val = l.take k ∧ CoinsOwn wr w.heap.size v cs ∧ Ext w wr) (fun _ i _ => n - (intOf i).toNat)
  case atStart => exact ⟨0, [], Nat.zero_le _, rfl, rfl, rfl, CoinsOwn.nil _ _, Ext.refl _⟩
  case round =>
    obtain ⟨k, cs, hk, rfl, hcl, hcv, hown, hE⟩ := hrel
    have HC := Lib.hid hcl; have HV := Lib.hid hcv; have HO := Lib.hid hown; have HE := Lib.hid hE
    clear hcl hcv hown hE
    by_cases hlt : k < n
    · have hkl : k < l.length := by rw [HL.out]; exact hlt
      obtain ⟨s, hs⟩ : ∃ s, s = l[k].1 := ⟨_, rfl⟩
      obtain ⟨z, hzz⟩ : ∃ z, z = l[k].2 := ⟨_, rfl⟩
      obtain ⟨g, o, hA, hc⟩ := HP.out (by intro e; have := congrArg List.length e; simp at this; rw [this] at hkl; simp at hkl)
      subst hA
      have hck := hc k (by simpa using hkl)
      have cs0 : wr.cell? ⟨g, o + k * 2, none⟩ = some (.string s) := HE.out.cell' (by rw [hck.1, hs]; simp [plain])
      have cs1 : wr.cell? ⟨g, o + k * 2 + 1, none⟩ = some (.int .i64 z) := HE.out.cell' (by rw [hck.2, hzz]; simp [plain])
      have HS := Lib.hid hs; have HZZ := Lib.hid hzz; clear hs hzz hck hc
      go_wp2_with (first | (go_at_call 100; refine (iCoin s z _ (by rw [HZZ.out]; exact (HZ.out _ (List.getElem_mem _)).1) (by rw [HZZ.out]; exact (HZ.out _ (List.getElem_mem _)).2)).mono ?_; rintro e w1 ⟨b, rfl, hB, hE1⟩; have HB := Lib.hid hB; have HE1 := Lib.hid ((ext1 _ _).trans' hE1); clear hB hE1) | (at_builtin; refine wpList_append_own_at _ rfl (.tmp 12) (.tmp 15) 161 rfl w.heap.size 152 i0 _ 2 24 Tryz.underlying161 hi hz0 hz1 hz2 rfl (by decide) u3 cs.length (flat2 (cs.map Co.pair)) rfl (owns_ext (HO.out.ext HE1.out).1 (ext1 _ _)) ⟨w1.heap.size, 0, none⟩ 1 1 [.string s, .pointer (some ⟨b, 0, none⟩)] rfl rfl (cell_two_new _ _ _ _) (two_one _ _ rfl rfl) (by rw [HC.out]; unfold maxLen; omega) (by rw [HC.out]; omega) (by have := HE.out.size; have := HE1.out.size; simp; omega) ?_; intro v' w2 hown hgrow _ _; have R := Lib.hid (coins_push ((HO.out.ext HE1.out).ext (ext1 _ (coinBox s b))) (HB.out.ext (ext1 _ _)) ((HE.out.trans' HE1.out).trans' (ext1 _ _)) hown hgrow); clear hown hgrow))
      go_roundw
      case rel =>
        refine ⟨k + 1, cs ++ [⟨s, b, z⟩], by omega, by go_num, by simp [HC.out], ?_, R.out.1, R.out.2⟩
        rw [List.map_append, HV.out, List.take_succ_eq_append_getElem hkl, HS.out, HZZ.out]; rfl
      case measure => simp [intOf]; omega
    · obtain rfl : k = n := by omega
      go_wp2
      go_ret
      exact ⟨_, cs, rfl, by rw [HV.out, List.take_of_length_le (by rw [HL.out]; exact Nat.le_refl _)], HO.out, HE.out⟩
end Go.Proofs.YtfafiahefjimdaaGreatDoor

namespace Go.Proofs.YtfafiahefjimdaaGreatDoor
open Go Go.RowKit

theorem infoSum : (Tryz.prog.info? 86).map (fun i => (i.zero, i.size, i.bytes)) = some (some (.agg #[.string ByteArray.empty, .int .i64 0]), 2, 24) := by kernel_rfl
def PlainOwn (w : World) (base : Nat) (E : TypeId) (v : Value) (l : List (ByteArray × Int)) : Prop := w.ownsRow base E 2 v l.length (flat2 (l.map plain))
theorem PlainOwn.nil (w : World) (base : Nat) (E : TypeId) : PlainOwn w base E (.slice none 0 0) [] := World.ownsRow_nil _ _ _ _
theorem PlainOwn.ext {w w' : World} {base : Nat} {E : TypeId} {v : Value} {l : List (ByteArray × Int)} (h : PlainOwn w base E v l) (e : Ext w w') : PlainOwn w' base E v l := owns_ext h e
theorem plain_push {w w1 w2 : World} {E : TypeId} {v v' : Value} {l : List (ByteArray × Int)} {s : ByteArray} {z : Int} (h : PlainOwn w1 w.heap.size E v l) (e : Ext w w1)
    (hown : w2.ownsRow w.heap.size E 2 v' (l.length + 1) (flat2 (l.map plain) ++ [.string s, .int .i64 z])) (hg : w1.grownBy w2 v.ownBlock) :
    PlainOwn w2 w.heap.size E v' (l ++ [(s, z)]) ∧ Ext w w2 := by
  refine ⟨?_, ext_grown e h hg⟩
  unfold PlainOwn
  rw [List.length_append, List.map_append, flat2_append]; exact hown
/-- Plain coins handed back. -/
def RetPlain (E : TypeId) (l : List (ByteArray × Int)) (w : World) (e : Ending) (w' : World) : Prop := ∃ v, e = .returned v ∧ PlainOwn w' w.heap.size E v l ∧ Ext w w'

theorem two_new1 (w : World) (o : Obj) (a b : Value) (t : TypeId) : ∀ j u, [a, b][j]? = some u → ((w.alloc o).alloc (.cells #[a, b] t)).cell? ((⟨w.heap.size + 1, 0, none⟩ : Addr).add j) = some u := by
  have := cell_two_new (w.alloc o) a b t
  rwa [show (w.alloc o).heap.size = w.heap.size + 1 by simp] at this

set_option maxRecDepth 100000 in
set_option maxHeartbeats 400000 in
theorem lSumTo (A : Option Addr) (n c : Nat) (l : List (ByteArray × Int)) (w : World) (hl : l.length = n) (hn : n ≤ 1000000) (h : PlainAt w A l) :
    Calls Tryz.prog 55 #[.slice A n c] w (RetPlain 55 l w) := by
  obtain ⟨i0, hi, hz0, hz1, hz2⟩ := info_parts infoPlan
  have HL := Lib.hid hl; have HP := Lib.hid h
  clear hl h
  go_enter Tryz.func55, Tryz.ntmps55
  go_wp2
  go_loopw [3, 8] (fun v i wr => ∃ (k : Nat) (cs : List (ByteArray × Int)), k ≤ n ∧ i = .int .i64 k ∧ cs.length = k ∧ cs = l.take k ∧ PlainOwn wr w.heap.size 55 v cs ∧ Ext w wr) (fun _ i _ => n - (intOf i).toNat)
  case atStart => exact ⟨0, [], Nat.zero_le _, rfl, rfl, rfl, PlainOwn.nil _ _ _, Ext.refl _⟩
  case round =>
    obtain ⟨k, cs, hk, rfl, hcl, hcv, hown, hE⟩ := hrel
    have HC := Lib.hid hcl; have HV := Lib.hid hcv; have HO := Lib.hid hown; have HE := Lib.hid hE
    clear hcl hcv hown hE
    by_cases hlt : k < n
    · have hkl : k < l.length := by rw [HL.out]; exact hlt
      obtain ⟨s, hs⟩ : ∃ s, s = l[k].1 := ⟨_, rfl⟩
      obtain ⟨z, hzz⟩ : ∃ z, z = l[k].2 := ⟨_, rfl⟩
      obtain ⟨g, o, hA, hc⟩ := HP.out (by intro e; have := congrArg List.length e; simp at this; rw [this] at hkl; simp at hkl)
      subst hA
      have hck := hc k (by simpa using hkl)
      have cs0 : wr.cell? ⟨g, o + k * 2, none⟩ = some (.string s) := HE.out.cell' (by rw [hck.1, hs]; simp [plain])
      have cs1 : wr.cell? ⟨g, o + k * 2 + 1, none⟩ = some (.int .i64 z) := HE.out.cell' (by rw [hck.2, hzz]; simp [plain])
      have HS := Lib.hid hs; have HZZ := Lib.hid hzz; clear hs hzz hck hc
      go_wp2_with (first | (at_builtin; refine wpList_append_own_at _ rfl (.tmp 12) (.tmp 14) 60 rfl w.heap.size 55 i0 _ 2 24 Tryz.underlying60 hi hz0 hz1 hz2 rfl (by decide) u3 cs.length (flat2 (cs.map plain)) rfl (owns_ext HO.out (ext2 _ _ _)) ⟨wr.heap.size + 1, 0, none⟩ 1 1 [.string s, .int .i64 z] rfl rfl (two_new1 _ _ _ _ _) (two_one _ _ rfl rfl) (by rw [HC.out]; unfold maxLen; omega) (by rw [HC.out]; omega) (by have := HE.out.size; simp; omega) ?_; intro v' w2 hown hgrow _ _; have R := Lib.hid (plain_push (HO.out.ext (ext2 _ (.cells #[.string s, .int .i64 z] 86) (.cells #[.string s, .int .i64 z] 55))) (HE.out.trans' (ext2 _ _ _)) hown hgrow); clear hown hgrow))
      go_roundw
      case rel =>
        refine ⟨k + 1, cs ++ [(s, z)], by omega, by go_num, by simp [HC.out], ?_, R.out.1, R.out.2⟩
        rw [HV.out, List.take_succ_eq_append_getElem hkl, HS.out, HZZ.out]
      case measure => simp [intOf]; omega
    · obtain rfl : k = n := by omega
      go_wp2
      go_ret
      have hv : cs = l := by rw [HV.out, List.take_of_length_le (by rw [HL.out]; exact Nat.le_refl _)]
      exact ⟨_, rfl, hv ▸ HO.out, HE.out⟩

/-- Plain coins and true handed back. -/
def RetBack (l : List (ByteArray × Int)) (w : World) (e : Ending) (w' : World) : Prop := ∃ v, e = .returned (.tuple #[v, .bool true]) ∧ PlainOwn w' w.heap.size 55 v l ∧ Ext w w'

set_option maxRecDepth 100000 in
set_option maxHeartbeats 400000 in
theorem iBackCoins (A : Option Addr) (n c : Nat) (l : List Co) (w : World) (hl : l.length = n) (hn : n ≤ 1000000) (h : CoinsAt w A l) (hz : ∀ x ∈ l, -maxI ≤ x.z ∧ x.z ≤ maxI) :
    Calls Tryz.prog 162 #[.slice A n c] w (RetBack (l.map Co.val) w) := by
  obtain ⟨i0, hi, hz0, hz1, hz2⟩ := info_parts infoPlan
  have HL := Lib.hid hl; have HP := Lib.hid h; have HZ := Lib.hid hz
  clear hl h hz
  go_enter Tryz.func162, Tryz.ntmps162
  go_wp2
  go_loopw [4, 11] (fun v i wr => ∃ (k : Nat) (cs : List (ByteArray × Int)), k ≤ n ∧ i = .int .i64 k ∧ cs.length = k ∧ cs = (l.map Co.val).take k ∧ PlainOwn wr w.heap.size 55 v cs ∧ Ext w wr) (fun _ i _ => n - (intOf i).toNat)
  case atStart => exact ⟨0, [], Nat.zero_le _, rfl, rfl, rfl, PlainOwn.nil _ _ _, Ext.refl _⟩
  case round =>
    obtain ⟨k, cs, hk, rfl, hcl, hcv, hown, hE⟩ := hrel
    have HC := Lib.hid hcl; have HV := Lib.hid hcv; have HO := Lib.hid hown; have HE := Lib.hid hE
    clear hcl hcv hown hE
    by_cases hlt : k < n
    · have hkl : k < l.length := by rw [HL.out]; exact hlt
      obtain ⟨s, hs⟩ : ∃ s, s = l[k].s := ⟨_, rfl⟩
      obtain ⟨b, hb⟩ : ∃ b, b = l[k].b := ⟨_, rfl⟩
      obtain ⟨z, hzz⟩ : ∃ z, z = l[k].z := ⟨_, rfl⟩
      obtain ⟨g, o, hA, hc⟩ := HP.out.1 (by intro e; have := congrArg List.length e; simp at this; rw [this] at hkl; simp at hkl)
      subst hA
      have hck := hc k (by simpa using hkl)
      have cs0 : wr.cell? ⟨g, o + k * 2, none⟩ = some (.string s) := HE.out.cell' (by rw [hck.1, hs]; simp [Co.pair])
      have cs1 : wr.cell? ⟨g, o + k * 2 + 1, none⟩ = some (.pointer (some ⟨b, 0, none⟩)) := HE.out.cell' (by rw [hck.2, hb]; simp [Co.pair])
      have HB := Lib.hid (show BigAt wr b z by rw [hb, hzz]; exact (HP.out.2 _ (List.getElem_mem hkl)).ext HE.out)
      have hz0' : -maxI ≤ z := by rw [hzz]; exact (HZ.out _ (List.getElem_mem _)).1
      have hz1' : z ≤ maxI := by rw [hzz]; exact (HZ.out _ (List.getElem_mem _)).2
      have HS := Lib.hid hs; have HZZ := Lib.hid hzz; clear hs hzz hck hc hb
      go_wp2_with (first | (go_at_call 115; refine (iBackCoin s b z _ (by exact HB.out.ext (ext1 _ _)) hz0' hz1').mono ?_; rintro e w1 ⟨rfl, hE1⟩; have HE1 := Lib.hid ((ext1 _ _).trans' hE1); clear hE1) | (at_builtin; refine wpList_append_own_at _ rfl (.tmp 22) (.tmp 24) 60 rfl w.heap.size 55 i0 _ 2 24 Tryz.underlying60 hi hz0 hz1 hz2 rfl (by decide) u4 cs.length (flat2 (cs.map plain)) rfl (owns_ext (owns_ext HO.out HE1.out) (ext2 _ _ _)) ⟨w1.heap.size + 1, 0, none⟩ 1 1 [.string s, .int .i64 z] rfl rfl (two_new1 _ _ _ _ _) (two_one _ _ rfl rfl) (by rw [HC.out]; unfold maxLen; omega) (by rw [HC.out]; omega) (by have := HE.out.size; have := HE1.out.size; simp; omega) ?_; intro v' w2 hown hgrow _ _; have R := Lib.hid (plain_push ((HO.out.ext HE1.out).ext (ext2 _ (.cells #[.string s, .int .i64 z] 55) (.cells #[.string s, .int .i64 z] 55))) ((HE.out.trans' HE1.out).trans' (ext2 _ _ _)) hown hgrow); clear hown hgrow))
      go_roundw
      case rel =>
        refine ⟨k + 1, cs ++ [(s, z)], by omega, by go_num, by simp [HC.out], ?_, R.out.1, R.out.2⟩
        rw [HV.out, List.take_succ_eq_append_getElem (by simpa using hkl), HS.out, HZZ.out]; simp [Co.val]
      case measure => simp [intOf]; omega
    · obtain rfl : k = n := by omega
      go_wp2
      go_ret2
      have hv : cs = l.map Co.val := by rw [HV.out, List.take_of_length_le (by simp [HL.out])]
      exact ⟨_, rfl, hv ▸ HO.out, HE.out⟩

end Go.Proofs.YtfafiahefjimdaaGreatDoor
