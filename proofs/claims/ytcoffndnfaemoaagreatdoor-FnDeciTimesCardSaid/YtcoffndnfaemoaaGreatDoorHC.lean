/-
  The specification's DeciBoth: the less of two, name by name.
  LegacyMinDec, removeZeroDecCoins, DecCoins.Intersect, impl.DecIntersect.
-/
import Derived.Test.YtcoffndnfaemoaaGreatDoorHB
import Derived.Test.YtcoffndnfaemoaaGreatDoorHA
import Derived.Test.YtcoffndnfaemoaaGreatDoorDOne
namespace Go.Proofs.YtcoffndnfaemoaaGreatDoor
open Go Go.RowKit

/-- The less of the two, name by name. -/
def dboth (l m : List (ByteArray × Int)) : List (ByteArray × Int) := l.map fun x => (x.1, if totalP x.1 m < x.2 then totalP x.1 m else x.2)
theorem dboth_take {l m : List (ByteArray × Int)} {k : Nat} (hk : k < l.length) {s : ByteArray} {z : Int} (he : l[k] = (s, z)) : dboth (l.take (k + 1)) m = dboth (l.take k) m ++ [(s, if totalP s m < z then totalP s m else z)] := by
  rw [List.take_succ_eq_append_getElem hk, he]; simp [dboth]
theorem bsgn_lt {a b : Int} (h : a < b) : sgn (a - b) < 0 := by unfold sgn; rw [if_pos (by omega)]; omega
theorem bsgn_ge {a b : Int} (h : ¬ a < b) : ¬ sgn (a - b) < 0 := by unfold sgn; rw [if_neg (by omega)]; split <;> omega

end Go.Proofs.YtcoffndnfaemoaaGreatDoor

namespace Go.Proofs.YtcoffndnfaemoaaGreatDoor
open Go Go.RowKit

/-- A new variable that holds a decimal coin. -/
def IBox (s : ByteArray) (z : Int) (W : World) (u : Value) (wx : World) : Prop := ∃ p r, u = .pointer (some ⟨p, 0, none⟩) ∧ Blk wx p 118 [.string s, .pointer (some ⟨r, 0, none⟩)] ∧ BigK wx r z ∧ Ext W wx
theorem iBox_n {W w2 : World} {r : Nat} {z : Int} (s : ByteArray) (hB : BigK w2 r z) (hE : Ext W w2) : IBox s z W (.pointer (some ⟨w2.heap.size, 0, none⟩)) (w2.alloc (dcoinCells s r)) :=
  ⟨_, r, rfl, blk_new0 w2 _ [.string s, .pointer (some ⟨r, 0, none⟩)], hB.ext (ext1 _ _), hE.trans' (ext1 _ _)⟩
theorem iBox_o {W w2 : World} {r p : Nat} {c d : Value} {z : Int} (s : ByteArray) (hK : Blk w2 p 118 [c, d]) (hp : W.heap.size ≤ p) (hB : BigK w2 r z) (hE : Ext W w2) : IBox s z W (.pointer (some ⟨p, 0, none⟩)) ((w2.setCell ⟨p, 0, none⟩ (.string s)).setCell ⟨p, 1, none⟩ (.pointer (some ⟨r, 0, none⟩))) :=
  ⟨_, r, rfl, dblk_two hK, dbig_two hB hK, dext_two hE hp⟩
theorem dcG0 (W : World) : Ext W W.drew := Ext.drewN' _ 1
theorem dcG1 (W : World) : Ext W (W.alloc dcoinZero).drew := (ext1 _ _).trans' (Ext.drewN' _ 1)
theorem dcG2 (W : World) : Ext W W := Ext.refl _
theorem dcG3 (W : World) : Ext W (W.alloc dcoinZero) := ext1 _ _
/-- The coin that the region reads. -/
def DI2 (p : Nat) (s : ByteArray) (b : Nat) (w' : World) : Prop := w'.cell? ⟨p, 0, none⟩ = some (.string s) ∧ w'.cell? ⟨p, 1, none⟩ = some (.pointer (some ⟨b, 0, none⟩))
theorem DI2.ext {p b : Nat} {s : ByteArray} {w w' : World} (h : DI2 p s b w) (e : Ext w w') : DI2 p s b w' := ⟨e.cell' h.1, e.cell' h.2⟩
theorem DI2.drew {p b : Nat} {s : ByteArray} {w : World} (h : DI2 p s b w) : DI2 p s b w.drew := h
theorem DI2.alloc {p b : Nat} {s : ByteArray} {w : World} (h : DI2 p s b w) (o : Obj) : DI2 p s b (w.alloc o) := h.ext (Ext.alloc' _ _)
theorem DI2.set2 {p b g : Nat} {s : ByteArray} {w : World} {u v : Value} (h : DI2 p s b w) (h1 : p ≠ g) : DI2 p s b ((w.setCell ⟨g, 0, none⟩ u).setCell ⟨g, 1, none⟩ v) := ⟨set_far (set_far h.1 h1) h1, set_far (set_far h.2 h1) h1⟩
theorem row_made {w : World} {base g n : Nat} {E : TypeId} {xs : List Value} (h : w.ownsRow base E 2 (.slice (some ⟨g, 0, none⟩) n n) n xs) : ∃ cur : List Value, Blk w g E cur ∧ cur.length = n * 2 := by
  rcases h.2 with ⟨hv, _⟩ | ⟨g', cap, cur, hv, _, hh, _, _, hs, _⟩
  · injection hv with h1; cases h1
  · injection hv with h1 h2 h3
    injection h1 with h1; injection h1 with h1
    subst h1; subst h3
    exact ⟨cur.toList, by unfold Blk; simpa using hh, by simpa using hs⟩
theorem take_set2 {cur xs : List Value} {k : Nat} (u v : Value) (h : cur.take (k * 2) = xs) (hk : k * 2 + 1 < cur.length) : ((cur.set (k * 2) u).set (k * 2 + 1) v).take ((k + 1) * 2) = xs ++ [u, v] := by
  subst h
  apply List.ext_getElem?
  intro i
  by_cases h1 : i < k * 2
  · rw [List.getElem?_append_left (by simp; omega), List.getElem?_take, if_pos (by omega), List.getElem?_set_ne (by omega), List.getElem?_set_ne (by omega), List.getElem?_take, if_pos h1]
  · rw [List.getElem?_append_right (by simp; omega), List.length_take, Nat.min_eq_left (by omega), List.getElem?_take]
    rcases (by omega : i = k * 2 ∨ i = k * 2 + 1 ∨ k * 2 + 2 ≤ i) with rfl | rfl | h2
    · rw [if_pos (by omega), List.getElem?_set_ne (by omega), List.getElem?_set_self (by omega), Nat.sub_self]; rfl
    · rw [if_pos (by omega), List.getElem?_set_self (by simp; omega), show k * 2 + 1 - k * 2 = 1 by omega]; rfl
    · rw [if_neg (by omega), List.getElem?_eq_none (by simp; omega)]
theorem rec_of_blk {w : World} {g : Nat} {E : TypeId} {cur : List Value} {cs : List Co} (hb : Blk w g E cur) (ht : cur.take (cs.length * 2) = flat2 (cs.map Co.pair)) : RecAt w (some ⟨g, 0, none⟩) (cs.map Co.pair) := fun _ => by
  refine ⟨g, 0, rfl, fun j hj => ?_⟩
  have hj' : j < cs.length := by simpa using hj
  obtain ⟨h1, h2⟩ := flat2_get (cs.map Co.pair) j hj
  rw [← ht, List.getElem?_take, if_pos (by omega)] at h1 h2
  exact ⟨by rw [hb.cell, Nat.zero_add]; exact h1, by rw [hb.cell, Nat.zero_add]; exact h2⟩
/-- The less of two plain lists, name by name. -/
def dcap (la lb : List DP) : List (ByteArray × Int) := vnz (dboth (la.map dval) (lb.map dval))
end Go.Proofs.YtcoffndnfaemoaaGreatDoor
