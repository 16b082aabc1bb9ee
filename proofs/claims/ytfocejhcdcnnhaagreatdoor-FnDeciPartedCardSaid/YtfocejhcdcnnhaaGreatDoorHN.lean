/-
  The whole parts and the rests of a right set come to it again: plain lemmas for FnDeciParted.
-/
import Derived.Test.YtfocejhcdcnnhaaGreatDoorHF
import Derived.Test.YtfocejhcdcnnhaaGreatDoorHM
import Derived.Test.YtfocejhcdcnnhaaGreatDoorHL
namespace Go.Proofs.YtfocejhcdcnnhaaGreatDoor
open Go Go.RowKit

theorem tot_whole (s : ByteArray) : ∀ (l : List (ByteArray × Int)), totalP s (l.map whole) = totalP s l * T18
  | [] => by show (0 : Int) = 0 * T18; rw [Int.zero_mul]
  | x :: l => by
    rw [List.map_cons, totalP_cons, totalP_cons, tot_whole s l]
    show (if x.1 = s then x.2 * T18 else 0) + _ = _
    rw [Int.add_mul]
    split
    · rfl
    · rw [Int.zero_mul]
theorem tot_parts (s : ByteArray) : ∀ (l : List (ByteArray × Int)), totalP s (l.map tq) * T18 + totalP s (l.map tr) = totalP s l
  | [] => by show (0 : Int) * T18 + 0 = 0; rw [Int.zero_mul]; rfl
  | x :: l => by
    have h := tot_parts s l
    rw [List.map_cons, List.map_cons, totalP_cons, totalP_cons, totalP_cons]
    show ((if x.1 = s then Int.tdiv x.2 T18 else 0) + _) * T18 + ((if x.1 = s then x.2 - Int.tdiv x.2 T18 * T18 else 0) + _) = _
    rw [Int.add_mul]
    split
    · omega
    · rw [Int.zero_mul]; omega
theorem whole_asc {l : List (ByteArray × Int)} (h : AscP l) : AscP (l.map whole) := List.pairwise_map.2 h
theorem parts_sum {U x y : List (ByteArray × Int)} (hU : RightP U) (hx : SumsTo (U.map tq) x) (hy : SumsTo (U.map tr) y) : dmrg (x.map whole) y = U :=
  sums_unique (dmrg_sums _ _ (whole_asc hx.1) hy.1) (right_sums hU) fun s => by
    rw [totalP_append, tot_whole, hx.2.2, hy.2.2]; exact tot_parts s U
theorem right_tok {U : List (ByteArray × Int)} (hU : RightP U) (hb : ∀ x ∈ U, x.2.natAbs ≤ MN) : ∀ x ∈ U, TOk x.2 := fun x hx => by
  have h1 := hU.2.1 x hx
  have h2 := hb x hx
  unfold MN at h2
  exact ⟨by omega, by omega⟩
theorem tq_nonneg {U : List (ByteArray × Int)} (hU : ∀ x ∈ U, TOk x.2) (s : ByteArray) : 0 ≤ totalP s (U.map tq) := by
  induction U with
  | nil => exact Int.le_refl _
  | cons x l ih =>
    rw [List.map_cons, totalP_cons]
    have h1 := ih fun y hy => hU y (List.mem_cons_of_mem _ hy)
    have h2 : 0 ≤ Int.tdiv x.2 T18 := (tok_facts (hU x List.mem_cons_self)).2.2.2.2.2.2.2
    show 0 ≤ (if x.1 = s then Int.tdiv x.2 T18 else 0) + _
    split <;> omega
theorem parts_isB {U x : List (ByteArray × Int)} (hU : RightP U) (ht : ∀ x ∈ U, TOk x.2) (hx : SumsTo (U.map tq) x) : isB x = true := by
  unfold isB; rw [decide_eq_true_iff]
  refine ⟨fun y hy => ⟨?_, ?_⟩, hx.1⟩
  · obtain ⟨p, hp, e⟩ := sums_mem hx y hy
    obtain ⟨p2, hp2, rfl⟩ := List.mem_map.1 hp
    rw [← e]; exact hU.2.2 p2 hp2
  · have h1 := hx.2.1 y hy
    have h2 := tot_get hx.1 hy
    rw [hx.2.2] at h2
    have := tq_nonneg ht y.1
    omega
theorem tr_asc {U : List (ByteArray × Int)} (h : AscP U) : AscP (U.map tr) := List.pairwise_map.2 h
theorem tq_asc {U : List (ByteArray × Int)} (h : AscP U) : AscP (U.map tq) := List.pairwise_map.2 h
theorem rests_small {U y : List (ByteArray × Int)} (hU : AscP U) (ht : ∀ x ∈ U, TOk x.2) (hy : SumsTo (U.map tr) y) : ∀ v ∈ y, v.2.natAbs ≤ 999999999999999999 := fun v hv => by
  have h2 := tot_get hy.1 hv
  rw [hy.2.2] at h2
  rw [← h2]
  exact tot_asc_bound (tr_asc hU) (fun p hp => by
    obtain ⟨q, hq, rfl⟩ := List.mem_map.1 hp
    have h3 : (q.2 - Int.tdiv q.2 T18 * T18).natAbs < 1000000000000000000 := (tok_facts (ht q hq)).2.2.2.2.2.2.1
    show (q.2 - Int.tdiv q.2 T18 * T18).natAbs ≤ _
    omega) v.1
theorem wholes_small {U x : List (ByteArray × Int)} (hU : AscP U) (hb : ∀ x ∈ U, x.2.natAbs ≤ MN) (_ : ∀ x ∈ U, TOk x.2) (hx : SumsTo (U.map tq) x) : ∀ v ∈ x, v.2.natAbs ≤ 1000000000001 := fun v hv => by
  have h2 := tot_get hx.1 hv
  rw [hx.2.2] at h2
  rw [← h2]
  exact tot_asc_bound (tq_asc hU) (fun p hp => by
    obtain ⟨q, hq, rfl⟩ := List.mem_map.1 hp
    show (Int.tdiv q.2 T18).natAbs ≤ _
    have h1 : (Int.tdiv q.2 T18).natAbs = q.2.natAbs / 1000000000000000000 := by rw [Int.natAbs_tdiv]; rfl
    have h3 := hb q hq
    unfold MN at h3
    omega) v.1
theorem tdiv_small {z : Int} (h : z.natAbs ≤ 999999999999999999) : Int.tdiv z T18 = 0 := by
  have h1 : (Int.tdiv z T18).natAbs = z.natAbs / 1000000000000000000 := by rw [Int.natAbs_tdiv]; rfl
  omega
theorem whole_bound2 {v : Int} (h : v.natAbs ≤ 1000000000001) : (v * T18).natAbs ≤ 2 * MN := by unfold T18 MN; omega
theorem right_oneErr {x : ByteArray × Int} (h : denomB x.1 = true) (h0 : 0 < x.2) : dOneErr x = none := by
  unfold dOneErr
  rw [if_neg (by rw [h]; simp), if_neg (by omega)]
theorem vnz_self {l : List (ByteArray × Int)} (h : ∀ x ∈ l, x.2 ≠ 0) : vnz l = l := by
  unfold vnz
  rw [List.filter_eq_self]
  intro x hx
  simpa using h x hx
end Go.Proofs.YtfocejhcdcnnhaaGreatDoor
