/-
  Right sets of decimal coins: sums, differences and what is in common: plain lemmas for FnDeciThereBack.
-/
import Derived.Test.YtfocejhcdcnnhaaGreatDoorHE
import Derived.Test.YtfocejhcdcnnhaaGreatDoorGQ
import Derived.Test.YtfocejhcdcnnhaaGreatDoorGV
import Derived.Test.YtfocejhcdcnnhaaGreatDoorGW
namespace Go.Proofs.YtfocejhcdcnnhaaGreatDoor
open Go Go.RowKit

/-- In order, above nought, with names that are denominations. -/
def RightP (l : List (ByteArray × Int)) : Prop := AscP l ∧ (∀ x ∈ l, 0 < x.2) ∧ ∀ x ∈ l, denomB x.1 = true
theorem dErrOne_right {S : List ByteArray} {x : ByteArray × Int} (h : dErrOne S x = none) : 0 < x.2 ∧ denomB x.1 = true := by
  unfold dErrOne at h
  split at h
  · cases h
  · split at h
    · cases h
    · next h1 =>
      split at h
      · cases h
      · split at h
        · cases h
        · next h2 => exact ⟨by omega, by simpa using h1⟩
theorem dErr_right : ∀ (l : List (ByteArray × Int)) (S : List ByteArray), dErr S l = none → ∀ x ∈ l, 0 < x.2 ∧ denomB x.1 = true
  | [], _, _ => fun _ h => nomatch h
  | y :: r, S, h => by
    cases h1 : dErrOne S y with
    | some t => rw [dErr_some h1] at h; cases h
    | none =>
      rw [dErr_none h1] at h
      intro x hx
      rcases List.mem_cons.1 hx with rfl | hx
      · exact dErrOne_right h1
      · exact dErr_right r _ h x hx
theorem right_of {l : List (ByteArray × Int)} (h : AscP l) (he : dErr [] l = none) : RightP l :=
  ⟨h, fun x hx => (dErr_right l [] he x hx).1, fun x hx => (dErr_right l [] he x hx).2⟩
theorem right_dErr' : ∀ (l : List (ByteArray × Int)) (S : List ByteArray), (∀ t ∈ S, ∀ x ∈ l, keyLt t x.1 = true) → RightP l → dErr S l = none
  | [], _, _, _ => rfl
  | y :: r, S, hS, hR => by
    have h0 := List.pairwise_cons.1 hR.1
    have h1 : dErrOne S y = none := by
      unfold dErrOne
      have k1 : seenB S y.1 = false := seenB_none fun t ht e => by
        have := hS t ht y List.mem_cons_self
        rw [e, keyLt_irrefl] at this; cases this
      have k2 : behind S y.1 = false := by
        unfold behind
        cases hq : S.getLast? with
        | none => rfl
        | some q =>
          show keyLt y.1 q = false
          have hm := hS q (List.mem_of_getLast? hq) y List.mem_cons_self
          cases hk : keyLt y.1 q
          · rfl
          · have := keyLt_trans hm hk
            rw [keyLt_irrefl] at this; cases this
      have k3 := hR.2.1 y List.mem_cons_self
      rw [k1, k2, hR.2.2 y List.mem_cons_self]
      simp; omega
    rw [dErr_none h1]
    refine right_dErr' r _ (fun t ht x hx => ?_) ⟨h0.2, fun x hx => hR.2.1 x (List.mem_cons_of_mem _ hx), fun x hx => hR.2.2 x (List.mem_cons_of_mem _ hx)⟩
    rcases List.mem_append.1 ht with ht | ht
    · exact hS t ht x (List.mem_cons_of_mem _ hx)
    · rw [List.mem_singleton] at ht; subst ht; exact h0.1 x hx
theorem right_dErr {l : List (ByteArray × Int)} (h : RightP l) : dErr [] l = none := right_dErr' l [] (fun _ h => nomatch h) h
theorem tot_nonneg (s : ByteArray) : ∀ {l : List (ByteArray × Int)}, (∀ x ∈ l, 0 < x.2) → 0 ≤ totalP s l
  | [], _ => Int.le_refl _
  | x :: l, h => by
    rw [totalP_cons]
    have h1 := h x List.mem_cons_self
    have h2 := tot_nonneg s (l := l) fun y hy => h y (List.mem_cons_of_mem _ hy)
    split <;> omega
theorem tot_dnegs (s : ByteArray) : ∀ (l : List (ByteArray × Int)), totalP s (dnegs l) = -totalP s l
  | [] => rfl
  | x :: l => by
    show totalP s ((x.1, -x.2) :: dnegs l) = _
    rw [totalP_cons, totalP_cons, tot_dnegs s l]
    show (if x.1 = s then -x.2 else 0) + _ = _
    split <;> omega
theorem dboth_asc {l m : List (ByteArray × Int)} (h : AscP l) : AscP (dboth l m) := List.pairwise_map.2 h
theorem tot_dboth {l m : List (ByteArray × Int)} (h : AscP l) (hm : ∀ s, 0 ≤ totalP s m) (s : ByteArray) : totalP s (dboth l m) = if totalP s m < totalP s l then totalP s m else totalP s l := by
  by_cases hex : ∃ x ∈ l, x.1 = s
  · obtain ⟨x, hx, rfl⟩ := hex
    have h1 : (x.1, if totalP x.1 m < x.2 then totalP x.1 m else x.2) ∈ dboth l m := List.mem_map.2 ⟨x, hx, rfl⟩
    have h2 := tot_get (dboth_asc (m := m) h) h1
    rw [tot_get h hx]
    exact h2
  · have h1 : totalP s l = 0 := totalP_none fun x hx e => hex ⟨x, hx, e⟩
    have h2 : totalP s (dboth l m) = 0 := totalP_none fun x hx e => by
      obtain ⟨y, hy, rfl⟩ := List.mem_map.1 hx
      exact hex ⟨y, hy, e⟩
    rw [h1, h2, if_neg (by have := hm s; omega)]
def capP (l m : List (ByteArray × Int)) : List (ByteArray × Int) := vnz (dboth l m)
theorem capP_tot {l m : List (ByteArray × Int)} (h : AscP l) (hm : ∀ x ∈ m, 0 < x.2) (s : ByteArray) : totalP s (capP l m) = if totalP s m < totalP s l then totalP s m else totalP s l := by
  unfold capP; rw [vnz_total]; exact tot_dboth h (fun s => tot_nonneg s hm) s
theorem capP_comm {l m : List (ByteArray × Int)} (hl : RightP l) (hm : RightP m) : capP l m = capP m l :=
  totals_unique (r := capP l m) (r' := capP m l) (vnz_asc (dboth_asc hl.1)) (fun _ hy => (vnz_mem hy).2) (vnz_asc (dboth_asc hm.1)) (fun _ hy => (vnz_mem hy).2) fun s => by
    have h1 := capP_tot hl.1 hm.2.1 s
    have h2 := capP_tot hm.1 hl.2.1 s
    rw [h1, h2]
    split <;> split <;> omega
theorem capP_right {l m : List (ByteArray × Int)} (hl : RightP l) (hm : RightP m) : RightP (capP l m) := by
  refine ⟨vnz_asc (dboth_asc hl.1), fun x hx => ?_, fun x hx => ?_⟩
  · obtain ⟨h1, h2⟩ := vnz_mem hx
    obtain ⟨y, hy, rfl⟩ := List.mem_map.1 h1
    have h3 := hl.2.1 y hy
    have h4 := tot_nonneg y.1 hm.2.1
    dsimp only at h2 ⊢
    split at h2 <;> split <;> omega
  · obtain ⟨h1, h2⟩ := vnz_mem hx
    obtain ⟨y, hy, rfl⟩ := List.mem_map.1 h1
    exact hl.2.2 y hy
theorem sum_right {l m : List (ByteArray × Int)} (hl : RightP l) (hm : RightP m) : RightP (dmrg l m) := by
  have hs := dmrg_sums l m hl.1 hm.1
  refine ⟨hs.1, fun x hx => ?_, fun x hx => ?_⟩
  · have h1 := hs.2.1 x hx
    have h2 := tot_get hs.1 hx
    rw [hs.2.2, totalP_append] at h2
    have := tot_nonneg x.1 hl.2.1
    have := tot_nonneg x.1 hm.2.1
    omega
  · rcases dmrg_mem l m x hx with ⟨y, hy, e⟩ | ⟨y, hy, e⟩
    · rw [← e]; exact hl.2.2 y hy
    · rw [← e]; exact hm.2.2 y hy
theorem sum_comm {l m : List (ByteArray × Int)} (hl : AscP l) (hm : AscP m) : dmrg m l = dmrg l m :=
  sums_unique (dmrg_sums m l hm hl) (dmrg_sums l m hl hm) fun s => by rw [totalP_append, totalP_append]; omega
theorem right_sums {l : List (ByteArray × Int)} (h : RightP l) : SumsTo l l := ⟨h.1, fun x hx => by have := h.2.1 x hx; omega, fun _ => rfl⟩
theorem sum_back {l m : List (ByteArray × Int)} (hl : RightP l) (hm : RightP m) : dmrg (dmrg l m) (dnegs m) = l :=
  sums_unique (dmrg_sums _ _ (dmrg_sums l m hl.1 hm.1).1 (dnegs_asc hm.1)) (right_sums hl) fun s => by
    rw [totalP_append, (dmrg_sums l m hl.1 hm.1).2.2, totalP_append, tot_dnegs]; omega
theorem sub_nonneg {l m : List (ByteArray × Int)} (hl : AscP l) (hm : AscP m) (h : ∀ s, totalP s m ≤ totalP s l) : dAnyNeg (dmrg l (dnegs m)) = false := by
  have hs := dmrg_sums l (dnegs m) hl (dnegs_asc hm)
  unfold dAnyNeg
  rw [List.any_eq_false]
  intro x hx
  have h2 := tot_get hs.1 hx
  rw [hs.2.2, totalP_append, tot_dnegs] at h2
  have := h x.1
  simp; omega
theorem sub_cap {l m : List (ByteArray × Int)} (hl : RightP l) (hm : RightP m) : dAnyNeg (dmrg l (dnegs (capP l m))) = false ∧ dAnyNeg (dmrg m (dnegs (capP l m))) = false := by
  have hc := capP_right hl hm
  refine ⟨sub_nonneg hl.1 hc.1 fun s => ?_, sub_nonneg hm.1 hc.1 fun s => ?_⟩
  · rw [capP_tot hl.1 hm.2.1]; split <;> omega
  · rw [capP_tot hl.1 hm.2.1]; split <;> omega
theorem right_nonneg {l : List (ByteArray × Int)} (hl : RightP l) : dAnyNeg l = false := by
  unfold dAnyNeg
  rw [List.any_eq_false]
  intro x hx
  have := hl.2.1 x hx
  simp; omega
/-- The bounds of deciIs as amounts. -/
def MN : Nat := 1000000000001 * 1000000000000000000
theorem dvalN_bound {l : List DP} (h : ∀ x ∈ l, DecN x.2.1 x.2.2) : ∀ x ∈ l.map dval, x.2.natAbs ≤ MN := by
  intro x hx
  obtain ⟨y, hy, rfl⟩ := List.mem_map.1 hx
  obtain ⟨⟨a, b⟩, c, d⟩ := h y hy
  show (decV y.2.1 y.2.2).natAbs ≤ _
  unfold decV T18 MN
  omega
theorem sum_boundN {l m : List (ByteArray × Int)} (hl : AscP l) (hm : AscP m) (bl : ∀ x ∈ l, x.2.natAbs ≤ MN) (bm : ∀ x ∈ m, x.2.natAbs ≤ MN) : ∀ x ∈ dmrg l m, x.2.natAbs ≤ 2 * MN := by
  intro x hx
  have hs := dmrg_sums l m hl hm
  have h2 := tot_get hs.1 hx
  rw [hs.2.2, totalP_append] at h2
  have h3 := tot_asc_bound hl bl x.1
  have h4 := tot_asc_bound hm bm x.1
  omega
theorem cap_boundN {l m : List (ByteArray × Int)} (hm : AscP m) (bl : ∀ x ∈ l, x.2.natAbs ≤ MN) (bm : ∀ x ∈ m, x.2.natAbs ≤ MN) : ∀ x ∈ capP l m, x.2.natAbs ≤ MN := by
  intro x hx
  obtain ⟨y, hy, rfl⟩ := List.mem_map.1 (vnz_mem hx).1
  dsimp only
  split
  · exact tot_asc_bound hm bm _
  · exact bl y hy
theorem tdm_t18 (z : Int) : Int.tdiv z T18 * T18 + Int.tmod z T18 = z := by
  have := Int.mul_tdiv_add_tmod z T18
  rw [Int.mul_comm]; exact this
theorem dback_dval (x : ByteArray × Int) : dval (dback x) = x := by
  show (x.1, decV (Int.tdiv x.2 T18) (Int.tmod x.2 T18)) = x
  unfold decV
  rw [tdm_t18]
theorem dbacks_dval (L : List (ByteArray × Int)) : (L.map dback).map dval = L := by
  rw [List.map_map]
  have : ∀ y ∈ L, (dval ∘ dback) y = id y := fun y _ => dback_dval y
  rw [List.map_congr_left this, List.map_id]
theorem dback_decB {z : Int} (h : z.natAbs ≤ 2 * MN) : DecB (Int.tdiv z T18) (Int.tmod z T18) := by
  have h1 : (Int.tdiv z T18).natAbs = z.natAbs / 1000000000000000000 := by rw [Int.natAbs_tdiv]; rfl
  have h2 : (Int.tmod z T18).natAbs = z.natAbs % 1000000000000000000 := by rw [Int.natAbs_tmod]; rfl
  unfold MN at h
  unfold DecB
  omega
theorem dbacks_decB {L : List (ByteArray × Int)} (h : ∀ x ∈ L, x.2.natAbs ≤ 2 * MN) : ∀ x ∈ L.map dback, DecB x.2.1 x.2.2 := by
  intro x hx
  obtain ⟨y, hy, rfl⟩ := List.mem_map.1 hx
  exact dback_decB (h y hy)
theorem fit_4MN {z : Int} (h : z.natAbs ≤ 4 * MN) : FitT z := by unfold MN at h; unfold FitT; omega
theorem subs_boundN {l m : List (ByteArray × Int)} {a b : Nat} (hl : AscP l) (hm : AscP m) (bl : ∀ x ∈ l, x.2.natAbs ≤ a) (bm : ∀ x ∈ m, x.2.natAbs ≤ b) : ∀ x ∈ dmrg l (dnegs m), x.2.natAbs ≤ a + b := by
  intro x hx
  have hs := dmrg_sums l (dnegs m) hl (dnegs_asc hm)
  have h2 := tot_get hs.1 hx
  rw [hs.2.2, totalP_append, tot_dnegs] at h2
  have h3 := tot_asc_bound hl bl x.1
  have h4 := tot_asc_bound hm bm x.1
  omega
theorem sizes_back {L : List (ByteArray × Int)} {k : Nat} (h : ∀ x ∈ L, x.1.size ≤ k) : ∀ x ∈ L.map dback, x.1.size ≤ k := by
  intro x hx
  obtain ⟨y, hy, rfl⟩ := List.mem_map.1 hx
  exact h y hy
theorem denomB_size {s : ByteArray} (h : denomB s = true) : s.size ≤ 128 := by
  unfold denomB at h; rw [decide_eq_true_iff] at h; exact h.2.1
theorem right_size {l : List (ByteArray × Int)} (h : RightP l) : ∀ x ∈ l, x.1.size ≤ 128 := fun x hx => denomB_size (h.2.2 x hx)
end Go.Proofs.YtfocejhcdcnnhaaGreatDoor
