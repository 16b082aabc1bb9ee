/-
  What the laws' walks share: lists handed back read as arguments; what the reference's guards tell.
-/
import Derived.Test.YtagfbefgcijegaaGreatDoorAwake
import Derived.Test.YtagfbefgcijegaaGreatDoorSpec2
namespace Go.Proofs.YtagfbefgcijegaaGreatDoor
open Go Go.RowKit

theorem pown_at {w : World} {base : Nat} {E : TypeId} {v : Value} {l : List (ByteArray × Int)} (h : PlainOwn w base E v l) : ∃ A c, v = .slice A l.length c ∧ PlainAt w A l := by
  obtain ⟨A, c, rfl⟩ := own_slice h
  exact ⟨A, c, rfl, recAt_of_owns (ps := l.map plain) (by simp) h⟩
theorem pown_len {w : World} {base n : Nat} {E : TypeId} {v : Value} {l : List (ByteArray × Int)} (h : PlainOwn w base E v l) (hl : l.length = n) : ∃ A c, v = .slice A n c ∧ PlainAt w A l := by
  subst hl; exact pown_at h
theorem ext_q {w w' : World} (h : ∃ n, w' = w.drewN n) : Ext w w' := by obtain ⟨n, rfl⟩ := h; exact Ext.drewN' _ _
theorem listB_len {l : List (ByteArray × Int)} (h : listB l = true) : l.length ≤ 8 := by
  unfold listB at h; rw [decide_eq_true_iff] at h; exact h.1
theorem listB_mem {l : List (ByteArray × Int)} (h : listB l = true) : ∀ x ∈ l, denomB x.1 = true ∧ -1099511627776 ≤ x.2 ∧ x.2 ≤ 1099511627776 := by
  unfold listB at h; rw [decide_eq_true_iff] at h; exact h.2
theorem listB_max {l : List (ByteArray × Int)} (h : listB l = true) : ∀ x ∈ l, -maxI ≤ x.2 ∧ x.2 ≤ maxI := by
  intro x hx; have := listB_mem h x hx; unfold maxI; omega
theorem listB_abs {l : List (ByteArray × Int)} (h : listB l = true) : ∀ x ∈ l, x.2.natAbs ≤ 1125899906842624 := by
  intro x hx; have := listB_mem h x hx; omega
theorem fits_size {n : Nat} {l : List (ByteArray × Int)} (h : Fits n l) : ∀ x ∈ l, x.1.size ≤ maxLen := by
  intro x hx; have := h.2 x hx; unfold maxLen; omega
theorem both {α : Type} {Q : α → Prop} {l m : List α} (h : ∀ x ∈ l, Q x) (k : ∀ x ∈ m, Q x) : ∀ x ∈ l ++ m, Q x := fun x hx => (List.mem_append.1 hx).elim (h x) (k x)
/-- Each name stands once. -/
def onceB (l : List (ByteArray × Int)) : Bool := decide (l.Pairwise fun a b => a.1 ≠ b.1)
theorem once_strict {r : List (ByteArray × Int)} (h : r.Pairwise fun a b => le a.1 b.1) (k : r.Pairwise fun a b => a.1 ≠ b.1) : r.Pairwise fun a b => keyLt a.1 b.1 = true :=
  (h.and k).imp fun ⟨h1, h2⟩ => key_lt_of_le_ne h1 h2
theorem sorted_same {l r r' : List (ByteArray × Int)} (h1 : r.Perm l) (h2 : r.Pairwise fun a b => le a.1 b.1) (h3 : r'.Perm l) (h4 : r'.Pairwise fun a b => le a.1 b.1) (ho : onceB l = true) : r = r' := by
  unfold onceB at ho; rw [decide_eq_true_iff] at ho
  exact asc_unique (key := Prod.fst) (h1.trans h3.symm) h2 (once_strict h4 (h3.symm.pairwise ho fun h e => h e.symm))
end Go.Proofs.YtagfbefgcijegaaGreatDoor
