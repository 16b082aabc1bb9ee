/-
  A list of plain coins among the arguments, opened; its amounts are of 64 bits.
-/
import Derived.Test.YtfocejhcdcnnhaaGreatDoorGU
namespace Go.Proofs.YtfocejhcdcnnhaaGreatDoor
open Go.ChangeShapes Go.WideShapes Go.ChangeAt Go.RowKit Go

theorem i64_wf {z : Int} (h : (Lit.int .i64 z).wf = true) : -9223372036854775808 ≤ z ∧ z ≤ 9223372036854775807 := by
  simp only [Lit.wf, Bool.and_eq_true, decide_eq_true_eq] at h
  exact h
theorem reads_icoins : Tryz.prog.readableRec 48 = true ∧ 48 < Tryz.prog.types.size := ⟨by kernel_rfl, of_decide_eq_true (by kernel_rfl)⟩
set_option maxRecDepth 100000 in
/-- A list of records among the arguments. -/
theorem open_icoins {H : Type} {enc : TypeId × Value → H} {W : World} {v : Value} {d : DataW H} {ps : List MemPlace} {base : Nat} (hv : Value.okWide Tryz.prog W .any base 48 v) (h : DataW.Trod enc Tryz.prog W 0 (fun _ => true) true 48 v d ps) :
    ∃ A n c l, v = .slice A n c ∧ l.length = n ∧ n ≤ maxLen ∧ PlainAt W A l ∧ ∀ x ∈ l, -9223372036854775808 ≤ x.2 ∧ x.2 ≤ 9223372036854775807 := by
  obtain ⟨A, n, c, rfl⟩ := okWide_slice Tryz.underlying48 hv
  obtain ⟨fuel, hf⟩ := h
  rcases Go.Deep.open_slice_pairs Tryz.underlying48 Tryz.underlying51 (by kernel_rfl) rfl rfl (by kernel_rfl) (by kernel_rfl) hf with ⟨hcs, _⟩ | ⟨a, len, cap, m, k, V0, V1, D0, D1, P0, P1, hcs, _, hl, hm, hmm, _, hx⟩
  · simp [Value.cells] at hcs
    obtain ⟨rfl, rfl, rfl⟩ := hcs
    exact ⟨none, 0, 0, [], rfl, rfl, Nat.zero_le _, (fun h => absurd rfl h), (fun _ h => nomatch h)⟩
  · simp [Value.cells] at hcs
    obtain ⟨rfl, rfl, rfl⟩ := hcs
    rw [if_pos rfl] at hmm
    obtain ⟨l, hll, hq⟩ := list_of (Q := fun i (x : ByteArray × Int) => W.cell? (a.add (i * 2)) = some (.string x.1) ∧ W.cell? (a.add (i * 2 + 1)) = some (.int .i64 x.2) ∧ (-9223372036854775808 ≤ x.2 ∧ x.2 ≤ 9223372036854775807)) n (fun i hi => by
      obtain ⟨h0, h1, h2, h3⟩ := hx i (by omega)
      obtain ⟨s, e0, _, _⟩ := DataW.trod_string Tryz.underlying9 h2
      obtain ⟨z, e1, _, hwf⟩ := DataW.trod_int Tryz.underlying2 h3
      simp only [List.cons.injEq, and_true] at e0 e1
      exact ⟨(s, z), by rw [h0, e0], by rw [h1, e1], i64_wf hwf⟩)
    refine ⟨some a, n, c, l, rfl, hll, by omega, (fun hne => ?_), (fun x hx => ?_)⟩
    rotate_left
    · obtain ⟨j, hj, rfl⟩ := List.mem_iff_getElem.1 hx
      exact (hq j hj).2.2
    have hpos : 0 < l.length := List.length_pos_iff.2 (by intro e; subst e; exact hne rfl)
    have hsp := spot_none (show W.cell? a = some _ from by have := (hq 0 hpos).1; simpa [Addr.add] using this)
    refine ⟨a.block, a.off, by rw [← hsp], fun j hj => ?_⟩
    have hjl : j < l.length := by simpa using hj
    have hadd : ∀ i, a.add i = ⟨a.block, a.off + i, none⟩ := by
      intro i; unfold Addr.add; split
      · subst i; simpa using hsp
      · rfl
    have h1 := hq j hjl
    rw [hadd, hadd] at h1
    refine ⟨?_, ?_⟩
    · simpa [plain] using h1.1
    · simpa [plain, Nat.add_assoc] using h1.2.1

end Go.Proofs.YtfocejhcdcnnhaaGreatDoor
