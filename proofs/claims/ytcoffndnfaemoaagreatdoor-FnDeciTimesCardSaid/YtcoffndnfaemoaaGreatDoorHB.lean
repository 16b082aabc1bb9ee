/-
  DecCoins.AmountOf.
  The specification's DeciAmount.
-/
import Derived.Test.YtcoffndnfaemoaaGreatDoorGY
import Derived.Test.YtcoffndnfaemoaaGreatDoorGR
import Derived.Test.YtcoffndnfaemoaaGreatDoorGP
import Derived.Test.YtcoffndnfaemoaaGreatDoorGZ
import Derived.Test.YtcoffndnfaemoaaGreatDoorGW
namespace Go.Proofs.YtcoffndnfaemoaaGreatDoor
open Go Go.RowKit

theorem tot_split (t : ByteArray) (l : List (ByteArray × Int)) (k : Nat) : totalP t l = totalP t (l.take k) + totalP t (l.drop k) := by
  rw [← totalP_append, List.take_append_drop]
theorem tot_lo {t : ByteArray} {l : List (ByteArray × Int)} (h : AscP l) {k : Nat} (hk : k < l.length) (ht : keyLt t l[k].1 = true) : totalP t l = totalP t (l.take k) := by
  rw [tot_split t l k, totalP_none (l := l.drop k), Int.add_zero]
  intro x hx e
  obtain ⟨j, hj, rfl⟩ := List.getElem_of_mem hx
  simp only [List.length_drop] at hj
  rw [List.getElem_drop] at e
  rcases Nat.eq_zero_or_pos j with rfl | hj0
  · rw [← e] at ht; simp only [Nat.add_zero] at ht; rw [keyLt_irrefl] at ht; cases ht
  · have h1 := List.pairwise_iff_getElem.1 h k (k + j) hk (by omega) (by omega)
    rw [e] at h1
    rw [keyLt_asymm h1] at ht; cases ht
theorem tot_hi {t : ByteArray} {l : List (ByteArray × Int)} (h : AscP l) {k : Nat} (hk : k < l.length) (ht : keyLt l[k].1 t = true) : totalP t l = totalP t (l.drop (k + 1)) := by
  rw [tot_split t l (k + 1), totalP_none (l := l.take (k + 1)), Int.zero_add]
  intro x hx e
  obtain ⟨j, hj, rfl⟩ := List.getElem_of_mem hx
  simp only [List.length_take] at hj
  rw [List.getElem_take] at e
  rcases (by omega : j = k ∨ j < k) with rfl | hj0
  · rw [e, keyLt_irrefl] at ht; cases ht
  · have h1 := List.pairwise_iff_getElem.1 h j k (by omega) hk (by omega)
    rw [e] at h1
    rw [keyLt_asymm h1] at ht; cases ht
theorem tot_eq {t : ByteArray} {l : List (ByteArray × Int)} (h : AscP l) {k : Nat} (hk : k < l.length) (ht : l[k].1 = t) : totalP t l = l[k].2 := by
  rw [← ht]; exact tot_get h (List.getElem_mem hk)
theorem dcoins_take {w : World} {A : Option Addr} {l : List Co} (h : DCoinsAt w A l) (k : Nat) : DCoinsAt w A (l.take k) := by
  refine ⟨fun hn => ?_, fun x hx => h.2 x (List.mem_of_mem_take hx)⟩
  obtain ⟨g, o, hA, hc⟩ := h.1 (by intro e; rw [List.map_take, e] at hn; simp at hn)
  refine ⟨g, o, hA, fun j hj => ?_⟩
  have hj' : j < (l.map Co.pair).length := by simp only [List.length_map, List.length_take] at hj ⊢; omega
  have := hc j hj'
  simpa using this
theorem dcoins_drop {w : World} {g o : Nat} {l : List Co} (h : DCoinsAt w (some ⟨g, o, none⟩) l) (k : Nat) : DCoinsAt w (some ⟨g, o + k * 2, none⟩) (l.drop k) := by
  refine ⟨fun hn => ⟨g, o + k * 2, rfl, fun j hj => ?_⟩, fun x hx => h.2 x (List.mem_of_mem_drop hx)⟩
  obtain ⟨g', o', hA, hc⟩ := h.1 (by intro e; rw [List.map_drop, e] at hn; simp at hn)
  obtain ⟨rfl, rfl⟩ : g' = g ∧ o' = o := by injection hA with hA; injection hA with h1 h2; exact ⟨h1.symm, h2.symm⟩
  have hj' : k + j < (l.map Co.pair).length := by simp only [List.length_map, List.length_drop] at hj ⊢; omega
  have := hc (k + j) hj'
  rw [show o' + k * 2 + j * 2 = o' + (k + j) * 2 by omega]
  simpa using this

/-- An amount handed back. -/
def RetAmt (z : Int) (w : World) (e : Ending) (w' : World) : Prop := ∃ b, e = .returned (.agg #[.pointer (some ⟨b, 0, none⟩)]) ∧ BigK w' b z ∧ Ext w w'

end Go.Proofs.YtcoffndnfaemoaaGreatDoor

namespace Go.Proofs.YtcoffndnfaemoaaGreatDoor
open Go Go.RowKit

theorem de_zero' : de 0 = .agg #[.bool false, .int .u64 0, .int .u64 0, .int .u64 0, .int .u64 0] := by
  show deV (decide ((0 : Int) < 0)) 0 = _
  unfold deV; rw [dw_zero, dw_zero, dw_zero, dw_zero]; rfl
theorem ext5 {u w : World} {g : Nat} (e : Ext u w) (hg : u.heap.size ≤ g) (a b c d f : Value) : Ext u (((((w.setCell ⟨g, 0, none⟩ a).setCell ⟨g, 1, none⟩ b).setCell ⟨g, 2, none⟩ c).setCell ⟨g, 3, none⟩ d).setCell ⟨g, 4, none⟩ f) := Only.ext e ((Only.refl _ _).five _ _ _ _ _) hg

end Go.Proofs.YtcoffndnfaemoaaGreatDoor
