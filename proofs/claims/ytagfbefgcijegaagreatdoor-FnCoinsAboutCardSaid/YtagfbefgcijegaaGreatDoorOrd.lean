/-
  The order of texts by their bytes: a strict total order. Plain.
-/
import Derived.Test.YtagfbefgcijegaaGreatDoorMem
import Derived.Lib.SmallJoins
import Derived.WideShapes
import Derived.Lib.Strings
namespace Go.Proofs.YtagfbefgcijegaaGreatDoor
open Go Go.RowKit

def keyLt (a b : ByteArray) : Bool := Op.bytesLess a.toList b.toList
theorem bytesLess_lt : ∀ (x y : List UInt8), Op.bytesLess x y = decide (x < y)
  | [], [] => by simp [Op.bytesLess]
  | _ :: _, [] => by simp [Op.bytesLess]
  | [], _ :: _ => by simp [Op.bytesLess]
  | a :: x, b :: y => by
    rw [Op.bytesLess, bytesLess_lt x y]
    simp only [List.cons_lt_cons_iff]
    by_cases h1 : a < b <;> by_cases h2 : a = b <;> by_cases h3 : x < y <;> simp [h1, h2, h3]
theorem keyLt_iff (a b : ByteArray) : keyLt a b = true ↔ a.toList < b.toList := by unfold keyLt; rw [bytesLess_lt]; simp
theorem key_ext {a b : ByteArray} (h : a.toList = b.toList) : a = b := by
  rw [Lib.toList_data, Lib.toList_data] at h
  exact WideShapes.bytes_inj h
theorem keyLt_irrefl (a : ByteArray) : keyLt a a = false := by
  rw [Bool.eq_false_iff]; intro h
  exact List.lt_irrefl _ ((keyLt_iff _ _).1 h)
theorem keyLt_trans {a b c : ByteArray} (h : keyLt a b = true) (k : keyLt b c = true) : keyLt a c = true :=
  (keyLt_iff _ _).2 (List.lt_trans ((keyLt_iff _ _).1 h) ((keyLt_iff _ _).1 k))
theorem keyLt_asymm {a b : ByteArray} (h : keyLt a b = true) : keyLt b a = false := by
  rw [Bool.eq_false_iff]; intro k
  have := keyLt_trans h k
  rw [keyLt_irrefl] at this; cases this
theorem keyLt_tri {a b : ByteArray} (h : keyLt a b = false) (k : keyLt b a = false) : a = b := by
  refine key_ext ?_
  have h1 : ¬ a.toList < b.toList := fun e => by rw [(keyLt_iff _ _).2 e] at h; cases h
  have h2 : ¬ b.toList < a.toList := fun e => by rw [(keyLt_iff _ _).2 e] at k; cases k
  exact List.le_antisymm (List.not_lt.1 h2) (List.not_lt.1 h1)
theorem key_beq (a b : ByteArray) : (a.toList == b.toList) = decide (a = b) := by
  by_cases h : a = b
  · subst h; simp
  · have : a.toList ≠ b.toList := fun e => h (key_ext e)
    simp [h, this]
/-- Go's '>' on texts. -/
def keyGt (a b : ByteArray) : Bool := !(Op.bytesLess a.toList b.toList) && !(a.toList == b.toList)
theorem keyGt_eq (a b : ByteArray) : keyGt a b = keyLt b a := by
  unfold keyGt
  rw [key_beq, show Op.bytesLess a.toList b.toList = keyLt a b from rfl]
  by_cases e : a = b
  · subst e; simp [keyLt_irrefl]
  · cases h : keyLt a b
    · cases k : keyLt b a
      · exact absurd (keyLt_tri h k) e
      · simp [e]
    · simp [keyLt_asymm h]

/-- Names that do not fall. -/
def sortedB : List ByteArray → Bool
  | a :: b :: r => !keyLt b a && sortedB (b :: r)
  | _ => true
theorem sortedB_true {l : List ByteArray} (h : ∀ j, (hj : j + 1 < l.length) → keyLt l[j + 1] l[j] = false) : sortedB l = true := by
  induction l with
  | nil => rfl
  | cons a l ih =>
    cases l with
    | nil => rfl
    | cons b r =>
      have h0 := h 0 (by simp)
      simp only [List.getElem_cons_succ, List.getElem_cons_zero] at h0
      simp only [sortedB, h0, Bool.not_false, Bool.true_and]
      exact ih (fun j hj => h (j + 1) (Nat.succ_lt_succ hj))
theorem sortedB_get {l : List ByteArray} (h : sortedB l = true) : ∀ j, (hj : j + 1 < l.length) → keyLt l[j + 1] l[j] = false := by
  induction l with
  | nil => intro j hj; simp at hj
  | cons a l ih =>
    cases l with
    | nil => intro j hj; simp at hj
    | cons b r =>
      simp only [sortedB, Bool.and_eq_true, Bool.not_eq_true'] at h
      intro j hj
      cases j with
      | zero => simpa using h.1
      | succ j => exact ih h.2 j (Nat.lt_of_succ_lt_succ hj)
theorem sortedB_false {l : List ByteArray} (j : Nat) (hj : j + 1 < l.length) (h : keyLt l[j + 1] l[j] = true) : sortedB l = false := by
  rw [Bool.eq_false_iff]; intro k
  rw [sortedB_get k j hj] at h; cases h
end Go.Proofs.YtagfbefgcijegaaGreatDoor
