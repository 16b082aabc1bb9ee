/-
  The contract of impl.SortOf, up to 12 coins.
-/
import Derived.Test.YtagfbefgcijegaaGreatDoorAdd
namespace Go.Proofs.YtagfbefgcijegaaGreatDoor
open Go Go.RowKit

/-- Plain coins handed back, in order. -/
def RetSorted (E : TypeId) (l : List (ByteArray × Int)) (w : World) (e : Ending) (w' : World) : Prop := ∃ r, RetPlain E r w e w' ∧ r.Perm l ∧ r.Pairwise fun a b => le a.1 b.1

set_option maxRecDepth 100000 in
theorem tSortNil (w : World) : Calls Tryz.prog 126 #[.slice none 0 0] w fun e w' => e = .returned (.slice none 0 0) ∧ w' = w := by
  go_enter Tryz.func126, Tryz.ntmps126
  go_wp2
  go_ret
  exact ⟨rfl, rfl⟩
/-- Coins.Sort of coins of the call's own, in order behind it. -/
def RetOwnSorted (base : Nat) (L0 : List Co) (w : World) (e : Ending) (w' : World) : Prop :=
  ∃ v L, e = .returned v ∧ CoinsOwn w' base v L ∧ L.Perm L0 ∧ (L.Pairwise fun a b => le (Co.s a) (Co.s b)) ∧ ∀ w0 : World, Ext w0 w → w0.heap.size ≤ base → Ext w0 w'
theorem tSortOwn {base : Nat} {v : Value} {L0 : List Co} {w : World} (h : CoinsOwn w base v L0) (hn : L0.length ≤ 12) : Calls Tryz.prog 126 #[v] w (RetOwnSorted base L0 w) := by
  rcases h.1.2 with ⟨hv, hn0⟩ | ⟨g, cap, cur, hv, hbg, hgb, hnc, hcm, hcs, hct⟩
  · subst hv
    obtain rfl : L0 = [] := List.length_eq_zero_iff.1 hn0
    refine (tSortNil w).mono ?_
    rintro e w' ⟨rfl, rfl⟩
    exact ⟨_, [], rfl, CoinsOwn.nil _ _, List.Perm.refl _, List.Pairwise.nil, fun w0 e0 _ => e0⟩
  · subst hv
    have hrow := row_of_own hgb hct
    refine (tSort g L0.length cap L0 _ w hrow rfl (Or.inl hn)).mono ?_
    rintro e w' ⟨rfl, L, hr, ho, hP, hS⟩
    have hl := hP.length_eq
    have h1 : (flat2 (L.map Co.pair)).length = L.length * 2 := by rw [flat2_length]; simp
    refine ⟨_, L, rfl, ⟨⟨by rw [flat2_length]; simp, Or.inr ⟨g, cap, (flat2 (L.map Co.pair) ++ cur.toList.drop (L0.length * 2)).toArray, by rw [hl], hbg, hr, by omega, hcm, ?_, ?_⟩⟩, fun x hx => (h.2 x (hP.mem_iff.1 hx)).only ho hrow⟩, hP, hS, fun w0 e0 hb => Only.ext e0 ho (by omega)⟩
    · simp [h1]; omega
    · rw [show (flat2 (L.map Co.pair) ++ cur.toList.drop (L0.length * 2)).toArray.toList = flat2 (L.map Co.pair) ++ cur.toList.drop (L0.length * 2) from rfl, List.take_append_of_le_length (by omega), List.take_of_length_le (by omega)]

theorem perm_plain {L cs : List Co} {l : List (ByteArray × Int)} (hP : L.Perm cs) (hv : cs.map Co.val = l) : (L.map Co.val).Perm l := hv ▸ hP.map _
end Go.Proofs.YtagfbefgcijegaaGreatDoor
