/-
  Plain laws of the insertion sort by exchanges of neighbours: its relation, and what it comes to.
-/
import Derived.Test.YtagfbefgcijegaaGreatDoorOrd
namespace Go.Proofs.YtagfbefgcijegaaGreatDoor
open Go Go.RowKit

/-- Not above. -/
def le (a b : ByteArray) : Prop := keyLt b a = false
theorem le_refl (a : ByteArray) : le a a := keyLt_irrefl a
theorem le_trans {a b c : ByteArray} (h : le a b) (k : le b c) : le a c := by
  unfold le at *
  cases e : keyLt c a
  · rfl
  · exfalso
    cases f : keyLt a b
    · rw [keyLt_tri f h] at e; rw [e] at k; cases k
    · rw [keyLt_trans e f] at k; cases k
theorem le_of_lt {a b : ByteArray} (h : keyLt a b = true) : le a b := keyLt_asymm h
theorem le_antisymm {a b : ByteArray} (h : le a b) (k : le b a) : a = b := keyLt_tri k h
theorem key_lt_of_le_ne {a b : ByteArray} (h : le a b) (hn : a ≠ b) : keyLt a b = true := by
  cases e : keyLt a b
  · exact absurd (keyLt_tri e h) hn
  · rfl
theorem key_lt_of_lt_of_le {a b c : ByteArray} (h : keyLt a b = true) (k : le b c) : keyLt a c = true := by
  by_cases e : b = c
  · subst e; exact h
  · exact keyLt_trans h (key_lt_of_le_ne k e)

section
variable {α : Type}
/-- The neighbours at j and j + 1 exchanged. -/
def swp : List α → Nat → List α
  | a :: b :: t, 0 => b :: a :: t
  | a :: t, j + 1 => a :: swp t j
  | l, _ => l
theorem swp_perm : ∀ (l : List α) (j : Nat), (swp l j).Perm l
  | [], _ => by unfold swp; exact List.Perm.refl _
  | [a], 0 => by simp [swp]
  | [a], j + 1 => by unfold swp; exact List.Perm.cons _ (swp_perm [] j)
  | a :: b :: t, 0 => List.Perm.swap _ _ _
  | a :: b :: t, j + 1 => List.Perm.cons _ (swp_perm (b :: t) j)
theorem swp_length (l : List α) (j : Nat) : (swp l j).length = l.length := (swp_perm l j).length_eq
theorem swp_get? : ∀ (l : List α) (j : Nat), j + 1 < l.length → ∀ p, (swp l j)[p]? = if p = j then l[j + 1]? else if p = j + 1 then l[j]? else l[p]?
  | a :: b :: t, 0, _, p => by
    match p with
    | 0 => simp [swp]
    | 1 => simp [swp]
    | p + 2 => simp [swp]
  | a :: t, j + 1, h, p => by
    unfold swp
    match p with
    | 0 => simp
    | p + 1 =>
      simp only [List.getElem?_cons_succ]
      rw [swp_get? t j (by simpa using h) p]
      simp
  | [a], 0, h, _ => by simp at h
  | [], _, h, _ => by simp at h
theorem swp_get (l : List α) (j : Nat) (h : j + 1 < l.length) (p : Nat) (hp : p < l.length) :
    (swp l j)[p]'(by rw [swp_length]; exact hp) = if p = j then l[j + 1] else if p = j + 1 then l[j] else l[p] := by
  have := swp_get? l j h p
  rw [List.getElem?_eq_getElem (by rw [swp_length]; exact hp)] at this
  by_cases e : p = j
  · rw [if_pos e, List.getElem?_eq_getElem h] at this; rw [if_pos e]; exact Option.some.inj this
  · rw [if_neg e] at this; rw [if_neg e]
    by_cases f : p = j + 1
    · rw [if_pos f, List.getElem?_eq_getElem (by omega)] at this; rw [if_pos f]; exact Option.some.inj this
    · rw [if_neg f, List.getElem?_eq_getElem hp] at this; rw [if_neg f]; exact Option.some.inj this
theorem swp_map {β : Type} (f : α → β) : ∀ (l : List α) (j : Nat), (swp l j).map f = swp (l.map f) j
  | [], _ => by simp [swp]
  | [a], 0 => by simp [swp]
  | [a], j + 1 => by simp [swp]
  | a :: b :: t, 0 => by simp [swp]
  | a :: b :: t, j + 1 => by simp [swp, swp_map f (b :: t) j]
/-- The exchange as two stores. -/
theorem swp_set (l : List α) (j : Nat) (h : j + 1 < l.length) : swp l j = (l.set (j + 1) l[j]).set j l[j + 1] := by
  apply List.ext_getElem?
  intro p
  rw [swp_get? l j h p, List.getElem?_set, List.getElem?_set]
  by_cases e : j = p
  · subst e; simp [List.getElem?_eq_getElem h]; omega
  · by_cases f : j + 1 = p
    · subst f
      rw [if_neg (by omega), if_pos rfl, if_neg (by omega), if_pos rfl, if_pos h, List.getElem?_eq_getElem (by omega)]
    · rw [if_neg (by omega), if_neg (by omega), if_neg e, if_neg f]

variable (key : α → ByteArray)
/-- The first i are in order. -/
def InsO (L0 L : List α) (i : Nat) : Prop := L.Perm L0 ∧ ∀ p q, (hq : q < L.length) → (h : p < q) → q < i → le (key L[p]) (key L[q])
/-- The first i + 1 are in order but for the one at j, which is not above those behind it. -/
def InsI (L0 L : List α) (i j : Nat) : Prop := L.Perm L0 ∧ j ≤ i ∧ i < L.length ∧ (∀ p q, (hq : q < L.length) → (h : p < q) → q ≤ i → q ≠ j → p ≠ j → le (key L[p]) (key L[q])) ∧
  ∀ q, (hq : q < L.length) → (h : j < q) → q ≤ i → le (key L[j]) (key L[q])
variable {key}
theorem insO_start (L : List α) : InsO key L L 1 := ⟨List.Perm.refl _, fun p q _ h k => by omega⟩
theorem insO_in {L0 L : List α} {i : Nat} (h : InsO key L0 L i) (hi : i < L.length) : InsI key L0 L i i :=
  ⟨h.1, Nat.le_refl _, hi, fun p q hq hpq h1 h2 _ => h.2 p q hq hpq (by omega), fun q hq h1 h2 => by omega⟩
theorem insI_out0 {L0 L : List α} {i : Nat} (h : InsI key L0 L i 0) : InsO key L0 L (i + 1) :=
  ⟨h.1, fun p q hq hpq h1 => by
    by_cases e : p = 0
    · subst e; exact h.2.2.2.2 q hq hpq (by omega)
    · exact h.2.2.2.1 p q hq hpq (by omega) (by omega) e⟩
theorem insI_out {L0 L : List α} {i j : Nat} (h : InsI key L0 L i (j + 1)) (hj : j + 1 < L.length) (hle : keyLt (key L[j + 1]) (key L[j]) = false) : InsO key L0 L (i + 1) :=
  ⟨h.1, fun p q hq hpq h1 => by
    obtain ⟨_, hji, hi, ha, hb⟩ := h
    by_cases e : p = j + 1
    · subst e; exact hb q hq hpq (by omega)
    · by_cases f : q = j + 1
      · subst f
        by_cases g : p = j
        · subst g; exact hle
        · exact le_trans (ha p j (by omega) (by omega) (by omega) (by omega) e) hle
      · exact ha p q hq hpq (by omega) f e⟩
theorem insI_swp {L0 L : List α} {i j : Nat} (h : InsI key L0 L i (j + 1)) (hj : j + 1 < L.length) (hlt : keyLt (key L[j + 1]) (key L[j]) = true) : InsI key L0 (swp L j) i j := by
  obtain ⟨hP, hji, hi, ha, hb⟩ := h
  have hl := swp_length L j
  refine ⟨(swp_perm L j).trans hP, by omega, by omega, fun p q hq hpq h1 h2 h3 => ?_, fun q hq h1 h2 => ?_⟩
  · rw [swp_get L j hj p (by omega), swp_get L j hj q (by omega), if_neg h3, if_neg h2]
    by_cases e : p = j + 1
    · rw [if_pos e, if_neg (by omega)]
      exact ha j q (by omega) (by omega) h1 (by omega) (by omega)
    · rw [if_neg e]
      by_cases f : q = j + 1
      · rw [if_pos f]; exact ha p j (by omega) (by omega) (by omega) (by omega) e
      · rw [if_neg f]; exact ha p q (by omega) hpq h1 f e
  · rw [swp_get L j hj q (by omega), swp_get L j hj j (by omega), if_pos rfl, if_neg (by omega)]
    by_cases f : q = j + 1
    · rw [if_pos f]; exact le_of_lt hlt
    · rw [if_neg f]; exact hb q (by omega) (by omega) h2
/-- In order: each not above the next ones. -/
def Asc (L : List α) : Prop := L.Pairwise fun a b => le (key a) (key b)
theorem insO_end {L0 L : List α} {i : Nat} (h : InsO key L0 L i) (hi : L.length ≤ i) : L.Perm L0 ∧ L.Pairwise fun a b => le (key a) (key b) :=
  ⟨h.1, List.pairwise_iff_getElem.2 fun p q hp hq hpq => h.2 p q hq hpq (by omega)⟩
/-- In order is one way only, where no key stands twice. -/
theorem asc_unique {L M : List α} (hP : L.Perm M) (hL : L.Pairwise fun a b => le (key a) (key b)) (hM : M.Pairwise fun a b => keyLt (key a) (key b) = true) : L = M := by
  have hd : ∀ a b, a ∈ L → b ∈ M → key a = key b → a = b := by
    intro a b ha hb e
    have ha' := hP.mem_iff.1 ha
    obtain ⟨p, hp, rfl⟩ := List.getElem_of_mem ha'
    obtain ⟨q, hq, rfl⟩ := List.getElem_of_mem hb
    have hM' := List.pairwise_iff_getElem.1 hM
    rcases Nat.lt_trichotomy p q with h | h | h
    · have := hM' p q hp hq h; rw [e, keyLt_irrefl] at this; cases this
    · subst h; rfl
    · have := hM' q p hq hp h; rw [e, keyLt_irrefl] at this; cases this
  exact List.Perm.eq_of_pairwise (le := fun a b => le (key a) (key b)) (fun a b ha hb h1 h2 => hd a b ha hb (le_antisymm h1 h2)) hL (hM.imp fun h => le_of_lt h) hP
end
end Go.Proofs.YtagfbefgcijegaaGreatDoor
