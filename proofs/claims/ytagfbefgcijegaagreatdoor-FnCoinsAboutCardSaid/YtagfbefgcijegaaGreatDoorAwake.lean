/-
  The contract of the laws' sumAwake: it returns true.
-/
import Derived.Test.YtagfbefgcijegaaGreatDoorAdd
import Derived.Test.YtagfbefgcijegaaGreatDoorErr
namespace Go.Proofs.YtagfbefgcijegaaGreatDoor
open Go Go.RowKit Go.Maps

abbrev kAAA : ByteArray := ⟨#[97, 97, 97]⟩
abbrev kBBB : ByteArray := ⟨#[98, 98, 98]⟩
theorem awakeAdd : IsAdd ([(kAAA, 2)] ++ [(kBBB, 3)]) [(kAAA, 2), (kBBB, 3)] :=
  ⟨[kAAA, kBBB], by simp [keyLt]; decide, fun s => by simp; exact ⟨fun h => h.imp Eq.symm Eq.symm, fun h => h.imp Eq.symm Eq.symm⟩, by
    have e1 : decide (kBBB = kAAA) = false := by decide
    have e2 : decide (kAAA = kBBB) = false := by decide
    simp [coalP, totalP]⟩
theorem plain_two {w : World} {base : Nat} {E : TypeId} {v : Value} {x y : ByteArray × Int} (h : PlainOwn w base E v [x, y]) :
    ∃ g c, v = .slice (some ⟨g, 0, none⟩) 2 c ∧ w.cell? ⟨g, 2, none⟩ = some (.string y.1) ∧ w.cell? ⟨g, 3, none⟩ = some (.int .i64 y.2) := by
  rcases h.2 with ⟨_, h0⟩ | ⟨g, cap, cur, hv, _, hb, _, _, _, ht⟩
  · simp at h0
  · refine ⟨g, cap, hv, ?_, ?_⟩
    all_goals
      have hk : Blk w g E cur.toList := by unfold Blk; simpa using hb
      rw [hk.cell]
      simp [flat2, plain] at ht
    · have := congrArg (fun l => l[2]?) ht; simpa [List.getElem?_take] using this
    · have := congrArg (fun l => l[3]?) ht; simpa [List.getElem?_take] using this
theorem plain_one {W : World} {b : Nat} {s : ByteArray} {z : Int} (h0 : W.cell? ⟨b, 0, none⟩ = some (.string s)) (h1 : W.cell? ⟨b, 1, none⟩ = some (.int .i64 z)) : PlainAt W (some ⟨b, 0, none⟩) [(s, z)] := by
  intro _
  refine ⟨b, 0, rfl, fun j hj => ?_⟩
  obtain rfl : j = 0 := by simp at hj; omega
  exact ⟨by simpa [plain] using h0, by simpa [plain] using h1⟩

set_option maxRecDepth 100000 in
set_option maxHeartbeats 2000000 in
theorem sumAwake (w : World) : Calls Tryz.prog 24 #[] w (RetE (.bool true) w) := by
  have hA : PlainAt ((w.alloc (.cells #[.string kAAA, .int .i64 2] 37)).alloc (.cells #[.string kBBB, .int .i64 3] 37)) (some ⟨w.heap.size, 0, none⟩) [(kAAA, 2)] :=
    plain_one (cell_old _ (by rw [cell_new]; rfl)) (cell_old _ (by rw [cell_new]; rfl))
  have hs : (w.alloc (.cells #[.string kAAA, .int .i64 2] 37)).heap.size = w.heap.size + 1 := by simp
  have hB : PlainAt ((w.alloc (.cells #[.string kAAA, .int .i64 2] 37)).alloc (.cells #[.string kBBB, .int .i64 3] 37)) (some ⟨w.heap.size + 1, 0, none⟩) [(kBBB, 3)] := by
    rw [← hs]; exact plain_one (by rw [cell_new]; rfl) (by rw [cell_new]; rfl)
  have H := Lib.hid ((iAddOf _ _ 1 1 1 1 [(kAAA, 2)] [(kBBB, 3)] _ rfl rfl (by omega) hA hB (by intro x hx; simp at hx; rcases hx with rfl | rfl <;> decide) (by intro x hx; simp at hx; rcases hx with rfl | rfl <;> decide)).mono (by
    intro e w' h
    unfold RetAddOf at h
    rw [if_pos ⟨rfl, rfl⟩] at h
    obtain ⟨v, r, he, hr, ho, hE⟩ := h
    rw [isAdd_unique hr awakeAdd] at ho
    exact (show ∃ v, e = .returned (.tuple #[v, .bool true]) ∧ PlainOwn w' _ 37 v [(kAAA, 2), (kBBB, 3)] ∧ Ext _ w' from ⟨v, he, ho, hE⟩)))
  clear hA hB hs
  have hD := Lib.hid (fun W : World => iDenomErr ⟨#[97]⟩ W (by decide))
  have hw : denomWord ⟨#[97]⟩ = invDenom := by unfold denomWord; rw [denomB_short (by decide)]; rfl
  rw [hw] at hD
  clear hw
  go_enter Tryz.func24, Tryz.ntmps24
  go_wp2_with (first | (go_at_call 21; (with_reducible refine H.out.mono ?_); rintro e w' ⟨v, rfl, ho, hE⟩; obtain ⟨g, c, rfl, hc0, hc1⟩ := plain_two ho; have HE := Lib.hid hE; clear ho hE) | (go_at_call 76; (with_reducible refine (hD.out _).mono ?_); rintro e w2 ⟨rfl, hE2⟩; have HE2 := Lib.hid hE2; clear hE2))
  go_ret
  exact ⟨rfl, ((ext2 w _ _).trans' HE.out).trans' HE2.out⟩
end Go.Proofs.YtagfbefgcijegaaGreatDoor
