/-
  DecCoins.negative, SafeSub, Sub; impl.DecSafe, DecSub.
  The specification's DeciLess: each number with its sign turned.
-/
import Derived.Test.YtcoffndnfaemoaaGreatDoorGR
import Derived.Test.YtcoffndnfaemoaaGreatDoorGV
import Derived.Test.YtcoffndnfaemoaaGreatDoorGY
import Derived.Deep.RegionLaw
import Derived.Test.YtcoffndnfaemoaaGreatDoorGZ
namespace Go.Proofs.YtcoffndnfaemoaaGreatDoor
open Go Go.RowKit

def dnegs (l : List (ByteArray × Int)) : List (ByteArray × Int) := l.map fun x => (x.1, -x.2)
theorem dnegs_append (l m : List (ByteArray × Int)) : dnegs (l ++ m) = dnegs l ++ dnegs m := List.map_append
theorem dnegs_mem {l : List (ByteArray × Int)} {x : ByteArray × Int} (h : x ∈ dnegs l) : (x.1, -x.2) ∈ l := by
  obtain ⟨y, hy, rfl⟩ := List.mem_map.1 h
  simpa using hy
theorem dnegs_asc {l : List (ByteArray × Int)} (h : AscP l) : AscP (dnegs l) := List.pairwise_map.2 h
theorem dnegs_len (l : List (ByteArray × Int)) : (dnegs l).length = l.length := List.length_map _

theorem DCoinsOwn.low {w : World} {base base' : Nat} {v : Value} {cs : List Co} (h : DCoinsOwn w base v cs) (hb : base' ≤ base) : DCoinsOwn w base' v cs := ⟨row_low h.1 hb, h.2⟩
/-- Handed back with a word. -/
def RetDCoinsB (l : List (ByteArray × Int)) (b : Bool) (w : World) (e : Ending) (w' : World) : Prop :=
  ∃ v cs, e = .returned (.tuple #[v, .bool b]) ∧ cs.map Co.val = l ∧ DCoinsOwn w' w.heap.size v cs ∧ Ext w w'

theorem decB_neg {a b : Int} (h : DecB a b) : DecB (-a) (-b) ∧ decV (-a) (-b) = -decV a b := by
  obtain ⟨⟨h1, h2⟩, h3, h4⟩ := h
  refine ⟨⟨⟨by omega, by omega⟩, by omega, by omega⟩, ?_⟩
  unfold decV T18; omega
/-- What a difference of two plain lists is. -/
def dsub (la lb : List DP) : List (ByteArray × Int) := dmrg (la.map dval) (dnegs (lb.map dval))
theorem dsub_len (la lb : List DP) : (dsub la lb).length ≤ la.length + lb.length := by
  have := dmrg_len (la.map dval) (dnegs (lb.map dval))
  rw [dnegs_len] at this
  simpa [dsub] using this
theorem dsub_cond {la lb : List DP} {ca cb : List Co} (va : ca.map Co.val = la.map dval) (vb : cb.map Co.val = lb.map dval) (hza : ∀ x ∈ la, DecB x.2.1 x.2.2) (hzb : ∀ x ∈ lb, DecB x.2.1 x.2.2) :
    (∀ y ∈ cb, Small y.z) ∧ ∀ x ∈ ca, ∀ y ∈ cb, x.s = y.s → Small x.z ∧ Small (-y.z) ∧ InR (x.z + -y.z) := by
  constructor
  · intro y hy
    have hy' : y.val ∈ lb.map dval := by rw [← vb]; exact List.mem_map_of_mem hy
    obtain ⟨q, hq, eq⟩ := List.mem_map.1 hy'
    have e2 : y.z = decV q.2.1 q.2.2 := (congrArg Prod.snd eq).symm
    rw [e2]; exact (decB_small (hzb q hq)).2.2
  · intro x hx y hy _
    have hx' : x.val ∈ la.map dval := by rw [← va]; exact List.mem_map_of_mem hx
    have hy' : y.val ∈ lb.map dval := by rw [← vb]; exact List.mem_map_of_mem hy
    obtain ⟨p, hp, ep⟩ := List.mem_map.1 hx'
    obtain ⟨q, hq, eq⟩ := List.mem_map.1 hy'
    have e1 : x.z = decV p.2.1 p.2.2 := (congrArg Prod.snd ep).symm
    have e2 : y.z = decV q.2.1 q.2.2 := (congrArg Prod.snd eq).symm
    rw [e1, e2, ← (decB_neg (hzb q hq)).2]
    exact decB_sum (hza p hp) (decB_neg (hzb q hq)).1
/-- The difference handed back, with two words. -/
def RetSafe (L : List (ByteArray × Int)) (w : World) (e : Ending) (w' : World) : Prop :=
  ∃ v, e = .returned (.tuple #[v, .bool (dAnyNeg L), .bool true]) ∧ DPlainOwn w' w.heap.size v (L.map dback) ∧ Ext w w'
theorem DPlainOwn.low {w : World} {base base' : Nat} {v : Value} {l : List DP} (h : DPlainOwn w base v l) (hb : base' ≤ base) : DPlainOwn w base' v l := row_low h hb

/-- What DecSub hands back: the difference, or nothing where something is less than nought. -/
def RetSubD (L : List (ByteArray × Int)) (w : World) (e : Ending) (w' : World) : Prop :=
  ∃ v, e = .returned (.tuple #[v, .bool (!dAnyNeg L)]) ∧ (dAnyNeg L = false → DPlainOwn w' w.heap.size v (L.map dback)) ∧ Ext w w'

end Go.Proofs.YtcoffndnfaemoaaGreatDoor

namespace Go.Proofs.YtcoffndnfaemoaaGreatDoor
open Go Go.RowKit

theorem de_zero : de 0 = .agg #[.bool false, .int .u64 0, .int .u64 0, .int .u64 0, .int .u64 0] := by
  show deV (decide ((0 : Int) < 0)) 0 = _
  unfold deV; rw [dw_zero, dw_zero, dw_zero, dw_zero]; rfl
theorem sZeroMinus (z : Int) (w : World) (h : z.natAbs < B64 ^ 4) : Calls Tryz.prog 27 #[.agg #[.bool false, .int .u64 0, .int .u64 0, .int .u64 0, .int .u64 0], de z] w (RetE (de (-z)) w) := by
  rw [← de_zero, ← Int.zero_sub]
  exact sMinus 0 z w (by simpa using h)
end Go.Proofs.YtcoffndnfaemoaaGreatDoor
