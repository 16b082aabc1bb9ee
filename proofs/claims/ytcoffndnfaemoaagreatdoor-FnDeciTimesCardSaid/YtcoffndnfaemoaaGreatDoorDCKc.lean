/-
  A decimal, a text, a yes or no among the arguments, opened.
-/
import Derived.Test.YtcoffndnfaemoaaGreatDoorGU
namespace Go.Proofs.YtcoffndnfaemoaaGreatDoor
open Go.ChangeShapes Go.WideShapes Go.ChangeAt Go.RowKit Go

theorem reads_ddec : Tryz.prog.readableRec 24 = true ∧ 24 < Tryz.prog.types.size := ⟨by kernel_rfl, of_decide_eq_true (by kernel_rfl)⟩
theorem reads_dbool : Tryz.prog.readableRec 4 = true ∧ 4 < Tryz.prog.types.size := ⟨by kernel_rfl, of_decide_eq_true (by kernel_rfl)⟩
set_option maxRecDepth 100000 in
/-- A decimal among the arguments. -/
theorem open_ddec {H : Type} {enc : TypeId × Value → H} {W : World} {v : Value} {d : DataW H} {ps : List MemPlace} {base : Nat} (hv : Value.okWide Tryz.prog W .any base 24 v) (h : DataW.Trod enc Tryz.prog W 0 (fun _ => true) true 24 v d ps) :
    ∃ y z, v = .agg #[.int .i64 y, .int .i64 z] := by
  obtain ⟨cs, rfl, hcs⟩ := okWide_struct Tryz.underlying24 hv
  obtain ⟨fuel, hf⟩ := h
  obtain ⟨y0, y1, n, _, hl, t0, t1⟩ := trod_struct2 Tryz.underlying24 hf
  rw [cells_ddec] at hl
  simp only [cells_dint] at t0 t1
  obtain ⟨y, h1, _, _⟩ := DataW.trod_int Tryz.underlying2 t0
  obtain ⟨z, h2, _, _⟩ := DataW.trod_int Tryz.underlying2 t1
  obtain ⟨xs⟩ := cs
  simp only [Value.cells] at hl h1 h2
  match xs, hl with
  | [c0, c1], _ =>
    simp at h1 h2
    subst h1; subst h2
    exact ⟨y, z, rfl⟩
set_option maxRecDepth 100000 in
/-- A yes or no among the arguments. -/
theorem open_dbool {H : Type} {enc : TypeId × Value → H} {W : World} {v : Value} {d : DataW H} {ps : List MemPlace} {base : Nat} (hv : Value.okWide Tryz.prog W .any base 4 v) (_h : DataW.Trod enc Tryz.prog W 0 (fun _ => true) true 4 v d ps) :
    ∃ b, v = .bool b := okWide_bool Tryz.underlying4 hv
end Go.Proofs.YtcoffndnfaemoaaGreatDoor
