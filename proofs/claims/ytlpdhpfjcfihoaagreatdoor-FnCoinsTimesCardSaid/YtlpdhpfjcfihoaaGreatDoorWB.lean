/-
  Blocks of machine words known whole, and what is written over a part of them. Plain lemmas.
-/
import Derived.Test.YtlpdhpfjcfihoaaGreatDoorGA
namespace Go.Proofs.YtlpdhpfjcfihoaaGreatDoor
open Go Go.RowKit

/-- A list overwritten from o on. -/
def over (ws : List Nat) (o : Nat) (ds : List Nat) : List Nat := ws.take o ++ (ds ++ ws.drop (o + ds.length))
theorem over_nil (ws : List Nat) (o : Nat) : over ws o [] = ws := by simp [over]
theorem over_length {ws : List Nat} {o : Nat} {ds : List Nat} (h : o + ds.length ≤ ws.length) : (over ws o ds).length = ws.length := by
  simp [over]; omega
theorem over_get {ws : List Nat} {o : Nat} {ds : List Nat} (h : o + ds.length ≤ ws.length) (j : Nat) : (over ws o ds)[j]? = if j < o then ws[j]? else if j < o + ds.length then ds[j - o]? else ws[j]? := by
  have ht : (ws.take o).length = o := by simp; omega
  unfold over
  by_cases h1 : j < o
  · rw [if_pos h1, List.getElem?_append_left (by rw [ht]; exact h1), List.getElem?_take, if_pos h1]
  · rw [if_neg h1, List.getElem?_append_right (by rw [ht]; omega), ht]
    by_cases h2 : j < o + ds.length
    · rw [if_pos h2, List.getElem?_append_left (by omega)]
    · rw [if_neg h2, List.getElem?_append_right (by omega), List.getElem?_drop]
      congr 1; omega
theorem over_snoc {ws : List Nat} {o : Nat} {ds : List Nat} (d : Nat) (h : o + ds.length < ws.length) : (over ws o ds).set (o + ds.length) d = over ws o (ds ++ [d]) := by
  refine List.ext_getElem? fun j => ?_
  rw [over_get (by simp; omega), List.getElem?_set, over_get (by omega), over_length (by omega)]
  by_cases h1 : o + ds.length = j
  · subst h1
    rw [if_pos rfl, if_pos (by omega), if_neg (by omega), if_pos (by simp), List.getElem?_append_right (by omega)]
    simp
  · rw [if_neg h1]
    by_cases h2 : j < o
    · rw [if_pos h2, if_pos h2]
    · rw [if_neg h2, if_neg h2]
      by_cases h3 : j < o + ds.length
      · rw [if_pos h3, if_pos (by simp; omega), List.getElem?_append_left (by omega)]
      · rw [if_neg h3, if_neg (by simp; omega)]
theorem over_cons {ws : List Nat} {o : Nat} {ds : List Nat} (d : Nat) (h : o + 1 + ds.length ≤ ws.length) : (over ws (o + 1) ds).set o d = over ws o (d :: ds) := by
  refine List.ext_getElem? fun j => ?_
  rw [over_get (by simp; omega), List.getElem?_set, over_get (by omega), over_length (by omega)]
  by_cases h1 : o = j
  · subst h1
    rw [if_pos rfl, if_pos (by omega), if_neg (by omega), if_pos (by simp)]
    simp
  · rw [if_neg h1]
    by_cases h2 : j < o
    · rw [if_pos (by omega), if_pos h2]
    · rw [if_neg (by omega), if_neg h2]
      by_cases h3 : j < o + 1 + ds.length
      · rw [if_pos h3, if_pos (by simp; omega), show j - o = (j - (o + 1)) + 1 by omega, List.getElem?_cons_succ]
      · rw [if_neg h3, if_neg (by simp; omega)]
theorem over_lt {ws : List Nat} {o : Nat} {ds : List Nat} (h : ∀ x ∈ ws, x < B64) (k : ∀ d ∈ ds, d < B64) : ∀ x ∈ over ws o ds, x < B64 := by
  intro x hx
  unfold over at hx
  rcases List.mem_append.1 hx with hx | hx
  · exact h x (List.mem_of_mem_take hx)
  · rcases List.mem_append.1 hx with hx | hx
    · exact k x hx
    · exact h x (List.mem_of_mem_drop hx)
/-- What lies in a part that was written over. -/
theorem over_part {ws : List Nat} {o : Nat} {ds : List Nat} (h : o + ds.length ≤ ws.length) : ((over ws o ds).drop o).take ds.length = ds := by
  have ht : (ws.take o).length = o := by simp; omega
  unfold over
  rw [List.drop_append_of_le_length (by rw [ht]; exact Nat.le_refl _), List.drop_of_length_le (by rw [ht]; exact Nat.le_refl _), List.nil_append, List.take_left]
theorem over_over {ws : List Nat} {o : Nat} {ds es : List Nat} (h : o + ds.length ≤ ws.length) (hl : es.length = ds.length) : over (over ws o ds) o es = over ws o es := by
  refine List.ext_getElem? fun j => ?_
  rw [over_get (by rw [over_length h]; omega), over_get h, over_get (by omega)]
  by_cases h1 : j < o
  · simp only [if_pos h1]
  · simp only [if_neg h1]
    by_cases h2 : j < o + es.length
    · simp only [if_pos h2]
    · rw [if_neg h2, if_neg (by omega), if_neg h2]
/-- A part next to another one, both written over. -/
theorem over_join {ws : List Nat} {o : Nat} {ds es : List Nat} (h : o + ds.length + es.length ≤ ws.length) : over (over ws o ds) (o + ds.length) es = over ws o (ds ++ es) := by
  refine List.ext_getElem? fun j => ?_
  rw [over_get (by rw [over_length (by omega)]; omega), over_get (by omega), over_get (by simp; omega)]
  by_cases h1 : j < o
  · simp only [if_pos h1, if_pos (show j < o + ds.length by omega)]
  · simp only [if_neg h1]
    by_cases h2 : j < o + ds.length
    · rw [if_pos h2, if_pos (show j < o + (ds ++ es).length by simp; omega), if_pos h2, List.getElem?_append_left (by omega)]
    · rw [if_neg h2, if_neg h2]
      by_cases h3 : j < o + ds.length + es.length
      · rw [if_pos h3, if_pos (show j < o + (ds ++ es).length by simp; omega), List.getElem?_append_right (by omega)]
        congr 1; omega
      · rw [if_neg h3, if_neg (show ¬ j < o + (ds ++ es).length by simp; omega)]

/-- Block g is just these words. -/
def WB (w : World) (g : Nat) (ws : List Nat) : Prop := Blk w g 172 (ws.map wv) ∧ ∀ x ∈ ws, x < B64
theorem WB.lt {w : World} {g : Nat} {ws : List Nat} (h : WB w g ws) : g < w.heap.size := h.1.lt
theorem WB.cell {w : World} {g : Nat} {ws : List Nat} (h : WB w g ws) (i : Nat) (x : Nat) (hx : ws[i]? = some x) : w.cell? ⟨g, i, none⟩ = some (.int .u64 (x : Int)) := by
  rw [h.1.cell i, List.getElem?_map, hx]; rfl
theorem WB.frozen {w : World} {g : Nat} {ws : List Nat} (h : WB w g ws) (i : Nat) : w.frozen? ⟨g, i, none⟩ = false := h.1.frozen i
theorem WB.set_ {w : World} {g : Nat} {ws : List Nat} (h : WB w g ws) (i d : Nat) (hd : d < B64) : WB (w.setCell ⟨g, i, none⟩ (.int .u64 (d : Int))) g (ws.set i d) := by
  refine ⟨?_, ?_⟩
  · have := h.1.set_ i (wv d)
    rwa [← List.map_set] at this
  · intro x hx
    rcases List.mem_or_eq_of_mem_set hx with hx | rfl
    · exact h.2 x hx
    · exact hd
theorem WB.ext {w w' : World} {g : Nat} {ws : List Nat} (h : WB w g ws) (e : Ext w w') : WB w' g ws := ⟨h.1.ext e, h.2⟩
theorem WB.drewN {w : World} {g : Nat} {ws : List Nat} (h : WB w g ws) (n : Nat) : WB (w.drewN n) g ws := h
theorem WB.only {w w' : World} {g i : Nat} {ws : List Nat} (h : WB w i ws) (e : Only g w w') (hne : i ≠ g) : WB w' i ws := ⟨e.block' h.1 hne, h.2⟩

/-- The words at a place, which may be the very place that is written (z = x), or lie in another block. -/
def Src (w : World) (g o b' o' : Nat) (xs : List Nat) : Prop :=
  (∀ x ∈ xs, x < B64) ∧ (∀ j (h : j < xs.length), w.cell? ⟨b', o' + j, none⟩ = some (.int .u64 (xs[j] : Int))) ∧ (b' ≠ g ∨ (b' = g ∧ o' = o))
theorem Src.read {w wr : World} {g o b' o' : Nat} {xs ws ds : List Nat} (h : Src w g o b' o' xs) (hb : WB w g ws) (e : Only g w wr) (k : WB wr g (over ws o ds)) (ho : o + ds.length ≤ ws.length) (j : Nat) (hj : ds.length ≤ j) (hx : j < xs.length) :
    wr.cell? ⟨b', o' + j, none⟩ = some (.int .u64 (xs[j] : Int)) := by
  have hc := h.2.1 j hx
  rcases h.2.2 with hne | ⟨rfl, rfl⟩
  · exact e.cell hc hne
  · rw [k.1.cell, List.getElem?_map, over_get ho, if_neg (by omega), if_neg (by omega), ← List.getElem?_map, ← hb.1.cell]
    exact hc

/-- What a vector operation leaves: the words of block g from o on are ds, and a word c is handed back; nothing else has turned. -/
def RetV (g : Nat) (ws : List Nat) (o n : Nat) (R : List Nat → Nat → Prop) (w : World) (e : Ending) (w' : World) : Prop :=
  ∃ (ds : List Nat) (c : Nat), e = .returned (.int .u64 (c : Int)) ∧ c < B64 ∧ ds.length = n ∧ (∀ d ∈ ds, d < B64) ∧ R ds c ∧ WB w' g (over ws o ds) ∧ Only g w w'
end Go.Proofs.YtlpdhpfjcfihoaaGreatDoor
