/-
  Contracts of the coins' sort.Interface: Len, Less, Swap of neighbours.
-/
import Derived.Test.YtagfbefgcijegaaGreatDoorIns
import Derived.Test.YtagfbefgcijegaaGreatDoorList2
import Derived.BigQuiet
import Derived.BigRegion
import Derived.Handy
namespace Go.Proofs.YtagfbefgcijegaaGreatDoor
open Go Go.RowKit

/-- The coins of a block of the call's own. -/
def Row (w : World) (g : Nat) (L : List Co) (rest : List Value) : Prop := Blk w g 81 (flat2 (L.map Co.pair) ++ rest)
theorem Row.drewN {w : World} {g : Nat} {L : List Co} {rest : List Value} (h : Row w g L rest) (n : Nat) : Row (w.drewN n) g L rest := h
theorem Row.drew {w : World} {g : Nat} {L : List Co} {rest : List Value} (h : Row w g L rest) : Row w.drew g L rest := h
theorem Only.drew' {g : Nat} {a w : World} (h : Only g a w) : Only g a w.drew := ⟨h.os, h.tape, h.output, h.size, h.block⟩
theorem Row.cell {w : World} {g : Nat} {L : List Co} {rest : List Value} (h : Row w g L rest) (j : Nat) (hj : j < L.length) :
    w.cell? ⟨g, j * 2, none⟩ = some (.string (Co.s L[j])) ∧ w.cell? ⟨g, j * 2 + 1, none⟩ = some (.pointer (some ⟨Co.b L[j], 0, none⟩)) := by
  have hl : (flat2 (L.map Co.pair)).length = L.length * 2 := by rw [flat2_length]; simp
  have hg := flat2_get (L.map Co.pair) j (by simpa using hj)
  have h1 : j * 2 < (flat2 (L.map Co.pair)).length := by omega
  have h2 : j * 2 + 1 < (flat2 (L.map Co.pair)).length := by omega
  constructor
  · rw [Blk.cell h, List.getElem?_append_left h1, hg.1]; simp [Co.pair]
  · rw [Blk.cell h, List.getElem?_append_left h2, hg.2]; simp [Co.pair]
theorem flat2_cons (a : Value × Value) (l : List (Value × Value)) : flat2 (a :: l) = a.1 :: a.2 :: flat2 l := by simp [flat2]
theorem swp_succ {α : Type} (a : α) (t : List α) (j : Nat) : swp (a :: t) (j + 1) = a :: swp t j := by cases t <;> simp [swp]
theorem swp_flat : ∀ (l : List (Value × Value)) (j : Nat) (h : j + 1 < l.length),
    flat2 (swp l j) = ((((flat2 l).set ((j + 1) * 2) l[j].1).set ((j + 1) * 2 + 1) l[j].2).set (j * 2) l[j + 1].1).set (j * 2 + 1) l[j + 1].2
  | a :: b :: t, 0, _ => by simp [swp, flat2_cons]
  | a :: t, j + 1, h => by
    have ih := swp_flat t j (by simpa using h)
    rw [swp_succ, flat2_cons, flat2_cons, ih]
    simp only [List.getElem_cons_succ]
    rw [show (j + 1 + 1) * 2 = (j + 1) * 2 + 1 + 1 by omega, show (j + 1) * 2 = j * 2 + 1 + 1 by omega]
    simp
  | [a], 0, h => by simp at h
  | [], _, h => by simp at h
theorem Row.swp {w : World} {g : Nat} {L : List Co} {rest : List Value} (h : Row w g L rest) (j : Nat) (hj : j + 1 < L.length) :
    Row ((((w.setCell ⟨g, (j + 1) * 2, none⟩ (.string (Co.s L[j]))).setCell ⟨g, (j + 1) * 2 + 1, none⟩ (.pointer (some ⟨Co.b L[j], 0, none⟩))).setCell ⟨g, j * 2, none⟩ (.string (Co.s L[j + 1]))).setCell ⟨g, j * 2 + 1, none⟩ (.pointer (some ⟨Co.b L[j + 1], 0, none⟩))) g (swp L j) rest := by
  have := (((Blk.set_ h ((j + 1) * 2) (.string (Co.s L[j]))).set_ ((j + 1) * 2 + 1) (.pointer (some ⟨Co.b L[j], 0, none⟩))).set_ (j * 2) (.string (Co.s L[j + 1]))).set_ (j * 2 + 1) (.pointer (some ⟨Co.b L[j + 1], 0, none⟩))
  unfold Row
  have hl : (flat2 (L.map Co.pair)).length = L.length * 2 := by rw [flat2_length]; simp
  rw [swp_map, swp_flat _ _ (by simpa using hj)]
  have e : ∀ (xs ys : List Value) (i : Nat) (u : Value), i < xs.length → (xs ++ ys).set i u = xs.set i u ++ ys := fun xs ys i u hi => by rw [List.set_append, if_pos hi]
  rw [e _ _ _ _ (by omega), e _ _ _ _ (by simp; omega), e _ _ _ _ (by simp; omega), e _ _ _ _ (by simp; omega)] at this
  simpa [Co.pair] using this

theorem cLen (a : Option Addr) (n c : Nat) (w : World) : Calls Tryz.prog 290 #[.slice a n c] w fun e w' => e = .returned (.int .i64 n) ∧ w' = w := by
  go_enter Tryz.func290, Tryz.ntmps290
  go_wp2
  go_ret
  exact ⟨rfl, rfl⟩

set_option maxRecDepth 100000 in
theorem cLess (g n c : Nat) (L : List Co) (rest : List Value) (w : World) (h : Row w g L rest) (hl : L.length = n) (i j : Nat) (hi : i < n) (hj : j < n) :
    Calls Tryz.prog 291 #[.slice (some ⟨g, 0, none⟩) n c, .int .i64 i, .int .i64 j] w (RetQ (.bool (keyLt (Co.s (L[i]'(by omega))) (Co.s (L[j]'(by omega))))) w) := by
  obtain ⟨s, hs⟩ : ∃ s, s = Co.s (L[i]'(by omega)) := ⟨_, rfl⟩
  obtain ⟨t, ht⟩ : ∃ t, t = Co.s (L[j]'(by omega)) := ⟨_, rfl⟩
  have c0 : w.cell? ⟨g, i * 2, none⟩ = some (.string s) := by rw [hs]; exact (h.cell i (by omega)).1
  have c1 : w.cell? ⟨g, j * 2, none⟩ = some (.string t) := by rw [ht]; exact (h.cell j (by omega)).1
  rw [← hs, ← ht]
  have b0 : (0 : Int) ≤ (i : Int) := by omega
  have b1 : (i : Int) < (n : Int) := by omega
  have b2 : (0 : Int) ≤ (j : Int) := by omega
  have b3 : (j : Int) < (n : Int) := by omega
  clear h hs ht hl hi hj
  have F := Lib.hid (show keyLt s t = Op.bytesLess s.toList t.toList from rfl)
  go_enter Tryz.func291, Tryz.ntmps291
  go_wp2
  go_quiet (fail)
  go_wp2
  go_ret
  rw [F.out]; exact ⟨rfl, by first | exact dr1 _ _ | exact dr2 _ _ _⟩

set_option maxRecDepth 100000 in
set_option maxHeartbeats 1000000 in
theorem cSwap (g n c : Nat) (L : List Co) (rest : List Value) (w : World) (h : Row w g L rest) (hl : L.length = n) (j : Nat) (hj : j + 1 < n) :
    Calls Tryz.prog 293 #[.slice (some ⟨g, 0, none⟩) n c, .int .i64 ((j : Int) + 1), .int .i64 j] w fun e w' => e = .returned (.tuple #[]) ∧ Row w' g (swp L j) rest ∧ Only g w w' := by
  obtain ⟨s, hs⟩ : ∃ s, s = Co.s (L[j]'(by omega)) := ⟨_, rfl⟩
  obtain ⟨t, ht⟩ : ∃ t, t = Co.s (L[j + 1]'(by omega)) := ⟨_, rfl⟩
  obtain ⟨x, hx⟩ : ∃ x, x = Co.b (L[j]'(by omega)) := ⟨_, rfl⟩
  obtain ⟨y, hy⟩ : ∃ y, y = Co.b (L[j + 1]'(by omega)) := ⟨_, rfl⟩
  have c0 : w.cell? ⟨g, j * 2, none⟩ = some (.string s) := by rw [hs]; exact (h.cell j (by omega)).1
  have c1 : w.cell? ⟨g, (j + 1) * 2, none⟩ = some (.string t) := by rw [ht]; exact (h.cell (j + 1) (by omega)).1
  have d0 : w.cell? ⟨g, j * 2 + 1, none⟩ = some (.pointer (some ⟨x, 0, none⟩)) := by rw [hx]; exact (h.cell j (by omega)).2
  have d1 : w.cell? ⟨g, (j + 1) * 2 + 1, none⟩ = some (.pointer (some ⟨y, 0, none⟩)) := by rw [hy]; exact (h.cell (j + 1) (by omega)).2
  have f0 : w.frozen? ⟨g, j * 2, none⟩ = false := Blk.frozen h _
  have f1 : w.frozen? ⟨g, (j + 1) * 2, none⟩ = false := Blk.frozen h _
  have f2 : w.frozen? ⟨g, j * 2 + 1, none⟩ = false := Blk.frozen h _
  have f3 : w.frozen? ⟨g, (j + 1) * 2 + 1, none⟩ = false := Blk.frozen h _
  have b0 : (0 : Int) ≤ (j : Int) := by omega
  have b1 : (j : Int) < (n : Int) := by omega
  have b2 : (j : Int) + 1 < (n : Int) := by omega
  have HR := Lib.hid h; have HS := Lib.hid hs; have HT := Lib.hid ht; have HX := Lib.hid hx; have HY := Lib.hid hy; have HL := Lib.hid hl
  clear h hs ht hx hy
  go_enter Tryz.func293, Tryz.ntmps293
  go_wp2
  go_region
  all_goals go_wp2
  all_goals go_end0
  all_goals exact ⟨rfl, by rw [HS.out, HT.out, HX.out, HY.out]; exact (HR.out.swp j (by omega)).drew, ((((Only.refl g w).set_ _ _).set_ _ _).set_ _ _ |>.set_ _ _).drew'⟩
end Go.Proofs.YtagfbefgcijegaaGreatDoor
