/-
  What the cards of the texts' laws use: the threshold of the division by powers drawn from the row's list.
-/
import Derived.Test.YtfafiahefjimdaaGreatDoorCKit
import Derived.Test.YtfafiahefjimdaaGreatDoorIB
import Derived.MakeChecks
namespace Go.Proofs.YtfafiahefjimdaaGreatDoor
open Go.ChangeShapes Go.WideShapes Go.ChangeAt Go.RowKit Go

theorem laid_num {P : Program} {W : World} {n : String} {k : IntKind} {z : Int} {g : Nat} {t : TypeId} (hg : P.globalNamed n = some g) (hty : (P.globals[g]?).map (·.type) = some t) (ht : P.underlying t = some (.int k)) :
    ∀ {laid : List (String × DataW Unit)} {ps : List MemPlace}, DataW.LaidVars P W laid ps → (n, DataW.lit (.int k z)) ∈ laid → W.cell? ⟨g, 0, none⟩ = some (.int k z)
  | [], _, _, hm => by cases hm
  | (n', d) :: r, _, ⟨g', t', cs, fuel, p, q, hg', ht', hvar, hd, hr, _⟩, hm => by
    rcases List.mem_cons.1 hm with h | h
    · injection h with h1 h2
      subst h1; subst h2
      obtain rfl := Option.some.inj (hg.symm.trans hg')
      obtain rfl := Option.some.inj (hty.symm.trans ht')
      obtain ⟨z', hc, hx, _⟩ := DataW.trod_int ht hd
      have h0 := World.var?_cell hg hvar 0
      rw [← Array.getElem?_toList, hc] at h0
      injection hx with hx _
      injection hx with hx
      injection hx with _ hx
      rw [h0, hx]; rfl
    · exact laid_num hg hty ht hr h
theorem leaf_of {W : World} {laid : List (String × DataW Unit)} (h : laidMetH Tryz.prog laid W) (hp : (laid.all fun x => x.2.handleName?.isNone) = true) (i : Nat)
    (h1 : laid[i]? = some ("pub-doubloon/pub/bigall.leafSize", .lit (.int .i64 8))) : Leaf W := by
  rw [MakeChecks.laidMetH_plain _ _ _ hp] at h
  obtain ⟨ps, hv, _⟩ := h
  exact laid_num (by kernel_rfl) (by kernel_rfl) Tryz.underlying3 hv (List.mem_of_getElem? h1)
end Go.Proofs.YtfafiahefjimdaaGreatDoor
