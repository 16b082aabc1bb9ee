/-
  The contracts of Sort, sanitizeCoins and NewCoins of sets of less than 50 coins.
  The contracts of types.Coin's comparisons and of impl.CompareOne.
  The contracts of zzCompare, Coins.Min and Coins.Max of sets.
  Plain laws of the least and the greatest of two sets; the contracts of impl.valid, MinOf and MaxOf.
-/
import Derived.Test.YtagfbefgcijegaaGreatDoorGH
import Derived.Test.YtagfbefgcijegaaGreatDoorGB
import Derived.Test.YtagfbefgcijegaaGreatDoorGC
import Derived.Deep.RegionHeld3
namespace Go.Proofs.YtagfbefgcijegaaGreatDoor
open Go Go.RowKit

theorem inOrd_set {l : List Co} (h : isB (l.map Co.val) = true) : InOrd l := inOrd_of (by have := isB_strict h; rw [List.pairwise_map] at this; exact this)
theorem tSortRow2 {base : Nat} {v : Value} {L0 : List Co} {w : World} (h : CoinsOwn w base v L0) (hO : L0.length ≤ 12 ∨ L0.length < 50 ∧ InOrd L0) : Calls Tryz.prog 126 #[v] w (RetSortRow base v L0 w) := by
  rcases h.1.2 with ⟨hv, hn0⟩ | ⟨g, cap, cur, hv, hbg, hgb, hnc, hcm, hcs, hct⟩
  · subst hv
    obtain rfl : L0 = [] := List.length_eq_zero_iff.1 hn0
    refine (tSortNil w).mono ?_
    rintro e w' ⟨rfl, rfl⟩
    exact ⟨[], rfl, CoinsOwn.nil _ _, List.Perm.refl _, List.Pairwise.nil, World.grownBy.refl _ _⟩
  · subst hv
    have hrow := row_of_own hgb hct
    refine (tSort g L0.length cap L0 _ w hrow rfl hO).mono ?_
    rintro e w' ⟨rfl, L, hr, ho, hP, hS⟩
    have hl := hP.length_eq
    have h1 : (flat2 (L.map Co.pair)).length = L.length * 2 := by rw [flat2_length]; simp
    refine ⟨L, rfl, ⟨⟨by rw [flat2_length]; simp, Or.inr ⟨g, cap, (flat2 (L.map Co.pair) ++ cur.toList.drop (L0.length * 2)).toArray, by rw [hl], hbg, hr, by omega, hcm, ?_, ?_⟩⟩, fun x hx => (h.2 x (hP.mem_iff.1 hx)).only ho hrow⟩, hP, hS, ho⟩
    · simp [h1]; omega
    · rw [show (flat2 (L.map Co.pair) ++ cur.toList.drop (L0.length * 2)).toArray.toList = flat2 (L.map Co.pair) ++ cur.toList.drop (L0.length * 2) from rfl, List.take_append_of_le_length (by omega), List.take_of_length_le (by omega)]

set_option maxRecDepth 100000 in
set_option maxHeartbeats 1000000 in
theorem tSanitizeSet (A : Option Addr) (n c : Nat) (l : List Co) (w : World) (hl : l.length = n) (hn : n < 50) (h : CoinsAt w A l) (hb : isB (l.map Co.val) = true) :
    Calls Tryz.prog 135 #[.slice A n c] w (RetOwn l w) := by
  have H1 := tRemoveZero A n c l w hl (by omega) h
  rw [nz_set hb] at H1
  have HH := Lib.hid H1; have HL := Lib.hid hl; have HB := Lib.hid hb
  clear hl h hb H1
  go_enter Tryz.func135, Tryz.ntmps135
  go_wp2_with (fail)
  go_at_call 162
  refine HH.out.mono ?_
  rintro e w1 ⟨v, rfl, hown, hE⟩
  obtain ⟨A1, c1, rfl⟩ := coins_shape hown
  rw [HL.out] at hown
  have HO := Lib.hid hown; have HE := Lib.hid hE
  clear hown hE
  rw [HL.out]
  by_cases h0 : n = 0
  · have HZ := Lib.hid (show l = [] from List.length_eq_zero_iff.1 (by rw [HL.out]; exact h0))
    subst h0
    go_wp2
    go_ret
    refine ⟨_, rfl, ?_, HE.out.trans' (Ext.alloc' _ _)⟩
    rw [HZ.out]
    exact ⟨⟨rfl, Or.inr ⟨w1.heap.size, 0, #[], rfl, HE.out.size, heap_alloc_new _ _, Nat.le_refl _, Nat.zero_le _, rfl, rfl⟩⟩, fun _ h => by cases h⟩
  · have hd : ((n : Int) == 0) = false := by simp; omega
    clear h0
    go_wp2_with (fail)
    go_at_call 126
    refine (tSortRow2 HO.out (Or.inr ⟨by rw [HL.out]; exact hn, inOrd_set HB.out⟩)).mono ?_
    rintro e w2 ⟨L, rfl, ho, hp, hs, hg⟩
    obtain rfl : L = l := set_self HB.out (by rw [nz_set HB.out]; exact hp) hs
    have HR := Lib.hid (And.intro ho (grown_old HO.out hg HE.out (Nat.le_refl _)))
    clear ho hp hs hg
    go_wp2
    go_ret
    exact ⟨_, rfl, HR.out.1, HR.out.2⟩

set_option maxRecDepth 100000 in
set_option maxHeartbeats 1000000 in
theorem tNewCoinsSet2 (A : Option Addr) (n c : Nat) (l : List Co) (w : World) (hl : l.length = n) (hn : n < 50) (h : CoinsAt w A l) (hsz : ∀ x ∈ l, x.s.size ≤ 9223372036854775807) (hb : isB (l.map Co.val) = true) :
    Calls Tryz.prog 145 #[.slice A n c] w (RetOwn l w) := by
  have H1 := Lib.hid (tSanitizeSet A n c l w hl hn h hb)
  have HL := Lib.hid hl; have HSZ := Lib.hid hsz; have HB := Lib.hid hb
  clear hl h hsz hb
  go_enter Tryz.func145, Tryz.ntmps145
  go_wp2_with (fail)
  go_at_call 135
  refine H1.out.mono ?_
  rintro e w1 ⟨v, rfl, hown, hE⟩
  obtain ⟨A1, c1, rfl, hc1, hc2⟩ := own_cap2 hown.1
  have HO := Lib.hid hown; have HE := Lib.hid hE; have HC := Lib.hid (And.intro hc1 hc2)
  clear hown hE hc1 hc2
  go_wp2_with (fail)
  go_at_call 103
  refine (tValidate A1 l.length c1 l _ rfl (by have := HL.out; omega) HC.out.1 HC.out.2 (own_at HO.out).1 HSZ.out).mono ?_
  rintro e w2 ⟨o, ho, hr⟩
  obtain rfl := errIs_unique (isB_err.2 HB.out) ho
  obtain ⟨rfl, hE⟩ := hr
  have HE2 := Lib.hid hE; clear hE ho
  go_wp2
  go_ret
  exact ⟨_, rfl, HO.out.ext HE2.out, HE.out.trans' HE2.out⟩
end Go.Proofs.YtagfbefgcijegaaGreatDoor

namespace Go.Proofs.YtagfbefgcijegaaGreatDoor
open Go Go.RowKit

theorem cmp_gt (y z : Int) : (cmpZ y z == 1) = decide (z < y) := by
  unfold cmpZ
  by_cases h1 : y < z
  · rw [if_pos h1]; have : ¬ z < y := by omega
    simp [this]
  · rw [if_neg h1]
    by_cases h2 : z < y
    · rw [if_pos h2]; simp [h2]
    · rw [if_neg h2]; simp [h2]
theorem cmp_lt (y z : Int) : (cmpZ y z == -1) = decide (y < z) := by
  unfold cmpZ
  by_cases h1 : y < z
  · rw [if_pos h1]; simp [h1]
  · rw [if_neg h1]
    by_cases h2 : z < y
    · rw [if_pos h2]; simp [h1]
    · rw [if_neg h2]; simp [h1]

set_option maxRecDepth 100000 in
theorem tIsGT (s : ByteArray) (a b : Nat) (y z : Int) (w : World) (hu : BigAt w a y) (hv : BigAt w b z) (hy : y.natAbs < B64) (hz : z.natAbs < B64) :
    Calls Tryz.prog 85 #[coinV s a, coinV s b] w (RetE (.bool (decide (z < y))) w) := by
  have e2 := ext2 w (coinBox s a) (coinBox s b)
  have H := Lib.hid (mGT a b y z _ (hu.ext e2) (hv.ext e2) hy hz)
  rw [cmp_gt] at H
  obtain ⟨r, hr⟩ : ∃ r, r = decide (z < y) := ⟨_, rfl⟩
  rw [← hr] at H ⊢
  clear hu hv hy hz e2 hr
  go_enter Tryz.func85, Tryz.ntmps85
  go_wp2_with (go_at_call 133; refine H.out.mono ?_; rintro e w' ⟨rfl, hE⟩; have HE := Lib.hid hE; clear hE)
  go_ret
  exact ⟨rfl, (ext2 _ _ _).trans' HE.out⟩

set_option maxRecDepth 100000 in
theorem tIsGTE (s : ByteArray) (a b : Nat) (y z : Int) (w : World) (hu : BigAt w a y) (hv : BigAt w b z) (hy : y.natAbs < B64) (hz : z.natAbs < B64) :
    Calls Tryz.prog 86 #[coinV s a, coinV s b] w (RetE (.bool (!decide (y < z))) w) := by
  have e2 := ext2 w (coinBox s a) (coinBox s b)
  have H := Lib.hid (mLT a b y z _ (hu.ext e2) (hv.ext e2) hy hz)
  rw [cmp_lt] at H
  obtain ⟨r, hr⟩ : ∃ r, r = decide (y < z) := ⟨_, rfl⟩
  rw [← hr] at H ⊢
  clear hu hv hy hz e2 hr
  go_enter Tryz.func86, Tryz.ntmps86
  go_wp2_with (go_at_call 134; refine H.out.mono ?_; rintro e w' ⟨rfl, hE⟩; have HE := Lib.hid hE; clear hE)
  go_ret
  exact ⟨rfl, (ext2 _ _ _).trans' HE.out⟩

set_option maxRecDepth 100000 in
theorem tIsLT (s : ByteArray) (a b : Nat) (y z : Int) (w : World) (hu : BigAt w a y) (hv : BigAt w b z) (hy : y.natAbs < B64) (hz : z.natAbs < B64) :
    Calls Tryz.prog 87 #[coinV s a, coinV s b] w (RetE (.bool (decide (y < z))) w) := by
  have e2 := ext2 w (coinBox s a) (coinBox s b)
  have H := Lib.hid (mLT a b y z _ (hu.ext e2) (hv.ext e2) hy hz)
  rw [cmp_lt] at H
  obtain ⟨r, hr⟩ : ∃ r, r = decide (y < z) := ⟨_, rfl⟩
  rw [← hr] at H ⊢
  clear hu hv hy hz e2 hr
  go_enter Tryz.func87, Tryz.ntmps87
  go_wp2_with (go_at_call 134; refine H.out.mono ?_; rintro e w' ⟨rfl, hE⟩; have HE := Lib.hid hE; clear hE)
  go_ret
  exact ⟨rfl, (ext2 _ _ _).trans' HE.out⟩

set_option maxRecDepth 100000 in
theorem tIsLTE (s : ByteArray) (a b : Nat) (y z : Int) (w : World) (hu : BigAt w a y) (hv : BigAt w b z) (hy : y.natAbs < B64) (hz : z.natAbs < B64) :
    Calls Tryz.prog 88 #[coinV s a, coinV s b] w (RetE (.bool (!decide (z < y))) w) := by
  have e2 := ext2 w (coinBox s a) (coinBox s b)
  have H := Lib.hid (mGT a b y z _ (hu.ext e2) (hv.ext e2) hy hz)
  rw [cmp_gt] at H
  obtain ⟨r, hr⟩ : ∃ r, r = decide (z < y) := ⟨_, rfl⟩
  rw [← hr] at H ⊢
  clear hu hv hy hz e2 hr
  go_enter Tryz.func88, Tryz.ntmps88
  go_wp2_with (go_at_call 133; refine H.out.mono ?_; rintro e w' ⟨rfl, hE⟩; have HE := Lib.hid hE; clear hE)
  go_ret
  exact ⟨rfl, (ext2 _ _ _).trans' HE.out⟩

set_option maxRecDepth 100000 in
theorem tIsEqual (s t : ByteArray) (a b : Nat) (y z : Int) (w : World) (hu : BigAt w a y) (hv : BigAt w b z) (hy : y.natAbs < B64) (hz : z.natAbs < B64) :
    Calls Tryz.prog 84 #[coinV s a, coinV t b] w (RetE (.bool (coinEq s t y z)) w) := by
  have e2 := ext2 w (coinBox s a) (coinBox t b)
  have H := Lib.hid (tEqual s t a b y z _ (hu.ext e2) (hv.ext e2) hy hz)
  clear hu hv hy hz e2
  go_enter Tryz.func84, Tryz.ntmps84
  go_wp2_with (go_at_call 127; refine H.out.mono ?_; rintro e w' ⟨rfl, hE⟩; have HE := Lib.hid hE; clear hE)
  go_ret
  exact ⟨rfl, (ext2 _ _ _).trans' HE.out⟩
end Go.Proofs.YtagfbefgcijegaaGreatDoor

namespace Go.Proofs.YtagfbefgcijegaaGreatDoor
open Go Go.RowKit

theorem cmpS (s t : ByteArray) (W : World) : Calls Tryz.prog 147 #[.string s, .string t] W (fun e w' => e = .returned (.int .i64 (if keyLt s t = true then -1 else if keyLt t s = true then 1 else 0)) ∧ w' = W) := by
  cases h : keyLt s t
  · have hb : Op.bytesLess s.toList t.toList = false := h
    cases h2 : keyLt t s
    · have hb2 : (s.toList == t.toList) = true := by rw [keyLt_tri h h2]; simp
      clear h h2
      go_enter Tryz.func147, Tryz.ntmps147
      go_wp2
      go_ret
      exact ⟨rfl, rfl⟩
    · have hb2 : (s.toList == t.toList) = false := by rw [key_beq]; rw [decide_eq_false_iff_not]; rintro rfl; rw [keyLt_irrefl] at h2; cases h2
      clear h h2
      go_enter Tryz.func147, Tryz.ntmps147
      go_wp2
      go_ret
      exact ⟨rfl, rfl⟩
  · have hb : Op.bytesLess s.toList t.toList = true := h
    clear h
    go_enter Tryz.func147, Tryz.ntmps147
    go_wp2
    go_ret
    exact ⟨rfl, rfl⟩

/-- The lesser of each denomination that both lists have. -/
def minL : List Co → List Co → List Co
  | [], _ => []
  | _ :: _, [] => []
  | x :: xs, y :: ys => if keyLt x.s y.s = true then minL xs (y :: ys) else if keyLt y.s x.s = true then minL (x :: xs) ys else (if y.z < x.z then y else x) :: minL xs ys
termination_by xs ys => xs.length + ys.length
theorem minL_nil (l : List Co) : minL l [] = [] := by cases l <;> simp [minL]
theorem minL_nil' (l : List Co) : minL [] l = [] := by simp [minL]
theorem minL_cons (x y : Co) (xs ys : List Co) : minL (x :: xs) (y :: ys) = if keyLt x.s y.s = true then minL xs (y :: ys) else if keyLt y.s x.s = true then minL (x :: xs) ys else (if y.z < x.z then y else x) :: minL xs ys := by
  rw [minL]
/-- The greater of each denomination. -/
def maxL : List Co → List Co → List Co
  | [], ys => ys
  | x :: xs, [] => x :: xs
  | x :: xs, y :: ys => if keyLt x.s y.s = true then x :: maxL xs (y :: ys) else if keyLt y.s x.s = true then y :: maxL (x :: xs) ys else (if x.z < y.z then y else x) :: maxL xs ys
termination_by xs ys => xs.length + ys.length
theorem maxL_nil (l : List Co) : maxL l [] = l := by cases l <;> simp [maxL]
theorem maxL_nil' (l : List Co) : maxL [] l = l := by simp [maxL]
theorem maxL_cons (x y : Co) (xs ys : List Co) : maxL (x :: xs) (y :: ys) = if keyLt x.s y.s = true then x :: maxL xs (y :: ys) else if keyLt y.s x.s = true then y :: maxL (x :: xs) ys else (if x.z < y.z then y else x) :: maxL xs ys := by
  rw [maxL]
theorem drop_at {α : Type} {l : List α} {k : Nat} (h : k < l.length) : l.drop k = l[k] :: l.drop (k + 1) := List.drop_eq_getElem_cons h
theorem minL_mem (n : Nat) : ∀ (a b : List Co), a.length + b.length = n → ∀ x ∈ minL a b, x ∈ a ∨ x ∈ b := by
  induction n using Nat.strongRecOn with
  | ind n ih =>
  intro a b hn x hx
  rcases a with _ | ⟨y, ys⟩
  · rw [minL_nil'] at hx; cases hx
  · rcases b with _ | ⟨z, zs⟩
    · rw [minL_nil] at hx; cases hx
    · rw [minL_cons] at hx
      simp only [List.length_cons] at hn
      split at hx
      · rcases ih _ (by simp only [List.length_cons]; omega) ys (z :: zs) rfl x hx with h | h
        · exact Or.inl (List.mem_cons_of_mem _ h)
        · exact Or.inr h
      · split at hx
        · rcases ih _ (by simp only [List.length_cons]; omega) (y :: ys) zs rfl x hx with h | h
          · exact Or.inl h
          · exact Or.inr (List.mem_cons_of_mem _ h)
        · rw [List.mem_cons] at hx
          rcases hx with rfl | hx
          · split
            · exact Or.inr (List.mem_cons_self ..)
            · exact Or.inl (List.mem_cons_self ..)
          · rcases ih _ (by omega) ys zs rfl x hx with h | h
            · exact Or.inl (List.mem_cons_of_mem _ h)
            · exact Or.inr (List.mem_cons_of_mem _ h)
theorem maxL_mem (n : Nat) : ∀ (a b : List Co), a.length + b.length = n → ∀ x ∈ maxL a b, x ∈ a ∨ x ∈ b := by
  induction n using Nat.strongRecOn with
  | ind n ih =>
  intro a b hn x hx
  rcases a with _ | ⟨y, ys⟩
  · rw [maxL_nil'] at hx; exact Or.inr hx
  · rcases b with _ | ⟨z, zs⟩
    · rw [maxL_nil] at hx; exact Or.inl hx
    · rw [maxL_cons] at hx
      simp only [List.length_cons] at hn
      split at hx
      · rw [List.mem_cons] at hx
        rcases hx with rfl | hx
        · exact Or.inl (List.mem_cons_self ..)
        · rcases ih _ (by simp only [List.length_cons]; omega) ys (z :: zs) rfl x hx with h | h
          · exact Or.inl (List.mem_cons_of_mem _ h)
          · exact Or.inr h
      · split at hx
        · rw [List.mem_cons] at hx
          rcases hx with rfl | hx
          · exact Or.inr (List.mem_cons_self ..)
          · rcases ih _ (by simp only [List.length_cons]; omega) (y :: ys) zs rfl x hx with h | h
            · exact Or.inl h
            · exact Or.inr (List.mem_cons_of_mem _ h)
        · rw [List.mem_cons] at hx
          rcases hx with rfl | hx
          · split
            · exact Or.inr (List.mem_cons_self ..)
            · exact Or.inl (List.mem_cons_self ..)
          · rcases ih _ (by omega) ys zs rfl x hx with h | h
            · exact Or.inl (List.mem_cons_of_mem _ h)
            · exact Or.inr (List.mem_cons_of_mem _ h)
theorem cells_two {W : World} {g : Nat} {T : TypeId} {u v : Value} (h : Blk W g T [u, v]) : W.cell? ⟨g, 0, none⟩ = some u ∧ W.cell? ⟨g, 1, none⟩ = some v ∧ g < W.heap.size :=
  ⟨(h.cell 0).trans rfl, (h.cell 1).trans rfl, cell_lt ((h.cell 0).trans rfl)⟩

set_option maxRecDepth 100000 in
set_option maxHeartbeats 4000000 in
theorem tMin (A B : Option Addr) (n c m d : Nat) (la lb : List Co) (w : World) (hla : la.length = n) (hlb : lb.length = m) (hn : n ≤ 20) (hm : m ≤ 20) (hA : CoinsAt w A la) (hB : CoinsAt w B lb)
    (hsz : ∀ x ∈ la ++ lb, x.s.size ≤ maxLen) (hz : ∀ x ∈ la ++ lb, x.z.natAbs < B64) (hp : ∀ x ∈ la ++ lb, 0 < x.z) (hb : isB ((minL la lb).map Co.val) = true) :
    Calls Tryz.prog 109 #[.slice A n c, .slice B m d] w (RetOwn (minL la lb) w) := by
  obtain ⟨i0, hi, hz0, hz1, hz2⟩ := info_parts infoCoin
  have HLA := Lib.hid hla; have HLB := Lib.hid hlb; have HPA := Lib.hid hA; have HPB := Lib.hid hB; have HSZ := Lib.hid hsz; have HZ := Lib.hid hz; have HP := Lib.hid hp; have HB := Lib.hid hb
  clear hla hlb hA hB hsz hz hp hb
  go_enter Tryz.func109, Tryz.ntmps109
  go_wp2_with (first | (at_make; refine wpList_make_own _ rfl _ _ 70 rfl w.heap.size 81 i0 _ 2 Tryz.underlying70 hi hz0 hz1 .i64 .i64 (0 : Int) 0 rfl rfl rfl (by rw [hz2]; omega) (by unfold maxLen; omega) (Nat.le_refl _) ?_; intro w0 hown0 hg0; have HO0 := Lib.hid (show CoinsOwn w0 w.heap.size _ [] from ⟨hown0, fun _ h => by cases h⟩); have HE0 := Lib.hid (ext_none hg0); clear hown0 hg0))
  go_loopw [5, 6, 7] (fun v i j wr => ∃ (p q : Nat) (cs : List Co), p ≤ n ∧ q ≤ m ∧ i = .int .i64 p ∧ j = .int .i64 q ∧ cs.length ≤ p ∧ cs ++ minL (la.drop p) (lb.drop q) = minL la lb ∧ CoinsOwn wr w.heap.size v cs ∧ Ext w wr) (fun _ i j _ => (n - (intOf i).toNat) + (m - (intOf j).toNat))
  case atStart => exact ⟨0, 0, [], Nat.zero_le _, Nat.zero_le _, rfl, rfl, Nat.le_refl _, by simp, HO0.out, HE0.out⟩
  case round =>
    obtain ⟨p, q, cs, hp, hq, rfl, rfl, hcl, hcv, hown, hE⟩ := hrel
    have HC := Lib.hid hcl; have HV := Lib.hid hcv; have HO := Lib.hid hown; have HE := Lib.hid hE
    clear hcl hcv hown hE HO0
    have HGO := Lib.hid (show (p < n ∧ q < m) ∨ cs = minL la lb by
      by_cases h1 : p < n
      · by_cases h2 : q < m
        · exact Or.inl ⟨h1, h2⟩
        · have h3 := HV.out
          rw [List.drop_of_length_le (l := lb) (by rw [HLB.out]; omega), minL_nil, List.append_nil] at h3; exact Or.inr h3
      · have h3 := HV.out
        rw [List.drop_of_length_le (l := la) (by rw [HLA.out]; omega), minL_nil', List.append_nil] at h3; exact Or.inr h3)
    by_cases hlt : p < n
    · by_cases hlt2 : q < m
      · clear HGO
        have hkp : p < la.length := by rw [HLA.out]; exact hlt
        have hkq : q < lb.length := by rw [HLB.out]; exact hlt2
        obtain ⟨s, hs⟩ : ∃ s, s = la[p].s := ⟨_, rfl⟩
        obtain ⟨a, ha⟩ : ∃ b, b = la[p].b := ⟨_, rfl⟩
        obtain ⟨y, hy⟩ : ∃ z, z = la[p].z := ⟨_, rfl⟩
        obtain ⟨t, ht⟩ : ∃ s, s = lb[q].s := ⟨_, rfl⟩
        obtain ⟨b, hb⟩ : ∃ b, b = lb[q].b := ⟨_, rfl⟩
        obtain ⟨z, hzz⟩ : ∃ z, z = lb[q].z := ⟨_, rfl⟩
        obtain ⟨g, o, hA, hc⟩ := HPA.out.1 (by intro e; have := congrArg List.length e; simp at this; rw [this] at hkp; simp at hkp)
        obtain ⟨g', o', hB, hc'⟩ := HPB.out.1 (by intro e; have := congrArg List.length e; simp at this; rw [this] at hkq; simp at hkq)
        subst hA; subst hB
        have hck := hc p (by simpa using hkp)
        have hck' := hc' q (by simpa using hkq)
        have cs0 : wr.cell? ⟨g, o + p * 2, none⟩ = some (.string s) := HE.out.cell' (by rw [hck.1, hs]; simp [Co.pair])
        have cs1 : wr.cell? ⟨g, o + p * 2 + 1, none⟩ = some (.pointer (some ⟨a, 0, none⟩)) := HE.out.cell' (by rw [hck.2, ha]; simp [Co.pair])
        have ct0 : wr.cell? ⟨g', o' + q * 2, none⟩ = some (.string t) := HE.out.cell' (by rw [hck'.1, ht]; simp [Co.pair])
        have ct1 : wr.cell? ⟨g', o' + q * 2 + 1, none⟩ = some (.pointer (some ⟨b, 0, none⟩)) := HE.out.cell' (by rw [hck'.2, hb]; simp [Co.pair])
        have g1 := cell_lt cs0; have g2 := cell_lt ct0
        have HX := Lib.hid (show la[p] = ⟨s, a, y⟩ by rw [hs, ha, hy])
        have HY := Lib.hid (show lb[q] = ⟨t, b, z⟩ by rw [ht, hb, hzz])
        have HBA := Lib.hid (show BigAt wr a y by rw [ha, hy]; exact (HPA.out.2 _ (List.getElem_mem hkp)).ext HE.out)
        have HBB := Lib.hid (show BigAt wr b z by rw [hb, hzz]; exact (HPB.out.2 _ (List.getElem_mem hkq)).ext HE.out)
        have HZA := Lib.hid (show y.natAbs < B64 ∧ 0 < y by rw [hy]; exact ⟨HZ.out _ (List.mem_append_left _ (List.getElem_mem hkp)), HP.out _ (List.mem_append_left _ (List.getElem_mem hkp))⟩)
        have HZB := Lib.hid (show z.natAbs < B64 ∧ 0 < z by rw [hzz]; exact ⟨HZ.out _ (List.mem_append_right _ (List.getElem_mem hkq)), HP.out _ (List.mem_append_right _ (List.getElem_mem hkq))⟩)
        have b0 : (0 : Int) ≤ (p : Int) := by omega
        have b1 : (0 : Int) ≤ (q : Int) := by omega
        have b2 : (p : Int) < (n : Int) := by omega
        have b3 : (q : Int) < (m : Int) := by omega
        obtain ⟨r, hr⟩ : ∃ r, r = (if keyLt s t = true then (-1 : Int) else if keyLt t s = true then 1 else 0) := ⟨_, rfl⟩
        have HCMP := Lib.hid (fun (W : World) => cmpS s t W)
        rw [← hr] at HCMP
        have HR := Lib.hid hr
        clear hs ha hy ht hb hzz hck hck' hc hc' hr
        go_wp2_with (fail)
        go_region
        all_goals (go_wp2_with (fail); go_at_call 147; refine (HCMP.out _).mono ?_; rintro e w1 ⟨rfl, hw1⟩)
        all_goals (first | (have K8 := Lib.hid (show Blk w1 wr.heap.size 81 [.string s, .pointer (some ⟨a, 0, none⟩)] by rw [hw1]; exact ((blk_new0 wr 81 [.string s, .pointer (some ⟨a, 0, none⟩)]).ext (Ext.alloc' _ _)).ext (Ext.drewN' _ 1)); have K9 := Lib.hid (show Blk w1 (wr.heap.size + 1) 81 [.string t, .pointer (some ⟨b, 0, none⟩)] by rw [hw1]; have k := (blk_new0 (wr.alloc (.cells #[.string s, .pointer (some ⟨a, 0, none⟩)] 81)) 81 [.string t, .pointer (some ⟨b, 0, none⟩)]).ext (Ext.drewN' _ 1); rw [show (wr.alloc (.cells #[.string s, .pointer (some ⟨a, 0, none⟩)] 81)).heap.size = wr.heap.size + 1 by simp] at k; exact k); have HE1 := Lib.hid (show Ext wr w1 by rw [hw1]; exact ((Ext.alloc' _ _).trans' (Ext.alloc' _ _)).trans' (Ext.drewN' _ 1)); generalize wr.heap.size + 1 = G9 at K9 ⊢; generalize wr.heap.size = G8 at K8 ⊢; clear hw1 g1 g2 cs0 cs1 ct0 ct1) | (have K9 := Lib.hid (show Blk w1 wr.heap.size 81 [.string t, .pointer (some ⟨b, 0, none⟩)] by rw [hw1]; exact ((blk_new0 wr 81 [.string t, .pointer (some ⟨b, 0, none⟩)]).ext (Ext.alloc' _ _)).ext (Ext.drewN' _ 1)); have K8 := Lib.hid (show Blk w1 (wr.heap.size + 1) 81 [.string s, .pointer (some ⟨a, 0, none⟩)] by rw [hw1]; have k := (blk_new0 (wr.alloc (.cells #[.string t, .pointer (some ⟨b, 0, none⟩)] 81)) 81 [.string s, .pointer (some ⟨a, 0, none⟩)]).ext (Ext.drewN' _ 1); rw [show (wr.alloc (.cells #[.string t, .pointer (some ⟨b, 0, none⟩)] 81)).heap.size = wr.heap.size + 1 by simp] at k; exact k); have HE1 := Lib.hid (show Ext wr w1 by rw [hw1]; exact ((Ext.alloc' _ _).trans' (Ext.alloc' _ _)).trans' (Ext.drewN' _ 1)); generalize wr.heap.size + 1 = G8 at K8 ⊢; generalize wr.heap.size = G9 at K9 ⊢; clear hw1 g1 g2 cs0 cs1 ct0 ct1))
        all_goals (
          cases hk : keyLt s t
          · cases hk2 : keyLt t s
            · obtain rfl := keyLt_tri hk hk2
              obtain rfl : r = 0 := by rw [HR.out, hk]; rfl
              have HKK := Lib.hid hk
              have q8 := cells_two K8.out; have q9 := cells_two K9.out
              obtain ⟨c80, c81, l8⟩ := q8; obtain ⟨c90, c91, l9⟩ := q9
              have HLT := Lib.hid (fun (W : World) (e : Ext wr W) => mLT b a z y W (HBB.out.ext e) (HBA.out.ext e) HZB.out.1 HZA.out.1)
              rw [cmp_lt] at HLT
              have hdy : decide (y = 0) = false := by have := HZA.out.2; rw [decide_eq_false_iff_not]; omega
              have hdz : decide (z = 0) = false := by have := HZB.out.2; rw [decide_eq_false_iff_not]; omega
              have HIY := Lib.hid (fun (W : World) (e : Ext wr W) => tIsZero s a y W (HBA.out.ext e))
              have HIZ := Lib.hid (fun (W : World) (e : Ext wr W) => tIsZero s b z W (HBB.out.ext e))
              rw [sgn_zero, hdy] at HIY; rw [sgn_zero, hdz] at HIZ
              clear hk hk2 hdy hdz
              by_cases hzy : z < y
              · rw [decide_eq_true hzy] at HLT
                have HZY := Lib.hid hzy; clear hzy
                go_wp2_with (fail)
                go_at_call 134
                refine (HLT.out _ (HE1.out.trans' (Ext.alloc' _ _))).mono ?_
                rintro e w2 ⟨rfl, hE⟩
                have hE2 := (Ext.alloc' _ _).trans' hE
                have HE2 := Lib.hid (HE1.out.trans' hE2)
                have k10 := (blk_new0 w1 81 [.string s, .pointer (some ⟨a, 0, none⟩)]).ext hE
                obtain ⟨d90, d91, m9⟩ := cells_two (K9.out.ext hE2)
                obtain ⟨e0, e1, m10⟩ := cells_two k10
                have f0 := k10.frozen 0; have f1 := k10.frozen 1
                have HEX := Lib.hid (Only.ext hE2 (((Only.refl w1.heap.size w2).set_ 0 (.string s)).set_ 1 (.pointer (some ⟨b, 0, none⟩))) (Nat.le_refl _))
                have HK11 := Lib.hid ((k10.set_ 0 (.string s)).set_ 1 (.pointer (some ⟨b, 0, none⟩)))
                have HK10 := Lib.hid k10
                clear hE hE2 c80 c81 l8 c90 c91 l9 k10
                go_wp2_with (fail)
                go_at_call 142
                refine (HIZ.out _ (HE1.out.trans' HEX.out)).mono ?_
                rintro e w3 ⟨rfl, hE⟩
                have HE3 := Lib.hid ((HE1.out.trans' HEX.out).trans' hE)
                obtain ⟨p0, p1, m11⟩ := cells_two (HK11.out.ext hE)
                clear hE e0 e1 m10 d90 d91 m9 f0 f1
                go_wp2_with (first | (at_builtin; refine wpList_append_own_at _ rfl (.tmp 51) (.tmp 53) 70 rfl w.heap.size 81 i0 _ 2 24 Tryz.underlying70 hi hz0 hz1 hz2 rfl (by decide) u5 cs.length (flat2 (cs.map Co.pair)) rfl (owns_ext (HO.out.ext HE3.out).1 (ext1 _ _)) ⟨w3.heap.size, 0, none⟩ 1 1 [.string s, .pointer (some ⟨b, 0, none⟩)] rfl rfl (cell_two_new _ _ _ _) (two_one _ _ rfl rfl) (by have := HC.out; unfold maxLen; omega) (by have := HC.out; omega) (by have := HE.out.size; have := (HE3.out).size; simp; omega) ?_; intro v' w5 hown hgrow _ _; have R := Lib.hid (coins_push ((HO.out.ext HE3.out).ext (ext1 _ _)) ((HBB.out.ext HE3.out).ext (ext1 _ _)) ((HE.out.trans' HE3.out).trans' (ext1 _ _)) hown hgrow); clear hown hgrow))
                go_roundw
                case rel =>
                  refine ⟨p + 1, q + 1, cs ++ [⟨s, b, z⟩], by omega, by omega, by go_num, by go_num, by have := HC.out; simp; omega, ?_, R.out.1, R.out.2⟩
                  have hv := HV.out; rw [drop_at hkp, drop_at hkq, HX.out, HY.out, minL_cons, if_neg (by rw [HKK.out]; simp), if_neg (by rw [HKK.out]; simp)] at hv; dsimp only at hv; rw [if_pos HZY.out] at hv; rw [List.append_assoc]; exact hv
                case measure => simp [intOf]; omega
              · rw [decide_eq_false hzy] at HLT
                have HZY := Lib.hid hzy; clear hzy
                go_wp2_with (fail)
                go_at_call 134
                refine (HLT.out _ (HE1.out.trans' (Ext.alloc' _ _))).mono ?_
                rintro e w2 ⟨rfl, hE⟩
                have hE2 := (Ext.alloc' _ _).trans' hE
                have HE2 := Lib.hid (HE1.out.trans' hE2)
                have k10 := (blk_new0 w1 81 [.string s, .pointer (some ⟨a, 0, none⟩)]).ext hE
                obtain ⟨d90, d91, m9⟩ := cells_two (K9.out.ext hE2)
                obtain ⟨e0, e1, m10⟩ := cells_two k10
                have f0 := k10.frozen 0; have f1 := k10.frozen 1
                have HEX := Lib.hid (Only.ext hE2 (((Only.refl w1.heap.size w2).set_ 0 (.string s)).set_ 1 (.pointer (some ⟨b, 0, none⟩))) (Nat.le_refl _))
                have HK11 := Lib.hid ((k10.set_ 0 (.string s)).set_ 1 (.pointer (some ⟨b, 0, none⟩)))
                have HK10 := Lib.hid k10
                clear hE hE2 c80 c81 l8 c90 c91 l9 k10
                go_wp2_with (fail)
                go_at_call 142
                refine (HIY.out _ HE2.out).mono ?_
                rintro e w3 ⟨rfl, hE⟩
                have HE3 := Lib.hid (HE2.out.trans' hE)
                obtain ⟨p0, p1, m11⟩ := cells_two (HK10.out.ext hE)
                clear hE e0 e1 m10 d90 d91 m9 f0 f1
                go_wp2_with (first | (at_builtin; refine wpList_append_own_at _ rfl (.tmp 51) (.tmp 53) 70 rfl w.heap.size 81 i0 _ 2 24 Tryz.underlying70 hi hz0 hz1 hz2 rfl (by decide) u5 cs.length (flat2 (cs.map Co.pair)) rfl (owns_ext (HO.out.ext HE3.out).1 (ext1 _ _)) ⟨w3.heap.size, 0, none⟩ 1 1 [.string s, .pointer (some ⟨a, 0, none⟩)] rfl rfl (cell_two_new _ _ _ _) (two_one _ _ rfl rfl) (by have := HC.out; unfold maxLen; omega) (by have := HC.out; omega) (by have := HE.out.size; have := (HE3.out).size; simp; omega) ?_; intro v' w5 hown hgrow _ _; have R := Lib.hid (coins_push ((HO.out.ext HE3.out).ext (ext1 _ _)) ((HBA.out.ext HE3.out).ext (ext1 _ _)) ((HE.out.trans' HE3.out).trans' (ext1 _ _)) hown hgrow); clear hown hgrow))
                go_roundw
                case rel =>
                  refine ⟨p + 1, q + 1, cs ++ [⟨s, a, y⟩], by omega, by omega, by go_num, by go_num, by have := HC.out; simp; omega, ?_, R.out.1, R.out.2⟩
                  have hv := HV.out; rw [drop_at hkp, drop_at hkq, HX.out, HY.out, minL_cons, if_neg (by rw [HKK.out]; simp), if_neg (by rw [HKK.out]; simp)] at hv; dsimp only at hv; rw [if_neg (by have := HZY.out; omega)] at hv; rw [List.append_assoc]; exact hv
                case measure => simp [intOf]; omega
            · obtain rfl : r = 1 := by rw [HR.out, hk, hk2]; rfl
              have HK1 := Lib.hid hk; have HK2 := Lib.hid hk2
              clear hk hk2
              go_wp2
              go_roundw
              case rel =>
                refine ⟨p, q + 1, cs, by omega, by omega, rfl, by go_num, HC.out, ?_, HO.out.ext HE1.out, HE.out.trans' HE1.out⟩
                have hv := HV.out; rw [drop_at hkp, drop_at hkq, HX.out, HY.out, minL_cons, if_neg (by rw [HK1.out]; simp), if_pos HK2.out, ← HX.out, ← drop_at hkp] at hv; exact hv
              case measure => simp [intOf]; omega
          · obtain rfl : r = -1 := by rw [HR.out, hk]; rfl
            have HK1 := Lib.hid hk
            clear hk
            go_wp2
            go_roundw
            case rel =>
              refine ⟨p + 1, q, cs, by omega, by omega, by go_num, rfl, by have := HC.out; omega, ?_, HO.out.ext HE1.out, HE.out.trans' HE1.out⟩
              have hv := HV.out; rw [drop_at hkp, drop_at hkq, HX.out, HY.out, minL_cons, if_pos HK1.out, ← HY.out, ← drop_at hkq] at hv; exact hv
            case measure => simp [intOf]; omega
        )
      · have b4 : (p : Int) < (n : Int) := by omega
        have b5 : ¬ (q : Int) < (m : Int) := by omega
        have HCS := Lib.hid (show cs = minL la lb from HGO.out.resolve_left (by omega))
        have HM := Lib.hid (show ∀ x ∈ cs, x ∈ la ++ lb from fun x hx => List.mem_append.2 (minL_mem _ la lb rfl x (by rw [← HCS.out]; exact hx)))
        have HB2 := Lib.hid (show isB (cs.map Co.val) = true by rw [HCS.out]; exact HB.out)
        obtain ⟨A1, c1, rfl⟩ := coins_shape HO.out
        go_wp2_with (fail)
        go_at_call 145
        refine (tNewCoinsSet2 A1 cs.length c1 cs _ rfl (by have := HC.out; omega) (own_at HO.out).1 (fun x hx => by have := HSZ.out x (HM.out x hx); unfold maxLen at this; omega) HB2.out).mono ?_
        rintro e w9 ⟨v, rfl, ho, hE⟩
        have HO9 := Lib.hid ho; have HE9 := Lib.hid hE; clear ho hE
        go_wp2
        go_ret
        exact ⟨v, rfl, HCS.out ▸ own_lower HO9.out HE.out.size, HE.out.trans' HE9.out⟩
    · have b4 : ¬ (p : Int) < (n : Int) := by omega
      have HCS := Lib.hid (show cs = minL la lb from HGO.out.resolve_left (by omega))
      have HM := Lib.hid (show ∀ x ∈ cs, x ∈ la ++ lb from fun x hx => List.mem_append.2 (minL_mem _ la lb rfl x (by rw [← HCS.out]; exact hx)))
      have HB2 := Lib.hid (show isB (cs.map Co.val) = true by rw [HCS.out]; exact HB.out)
      obtain ⟨A1, c1, rfl⟩ := coins_shape HO.out
      go_wp2_with (fail)
      go_at_call 145
      refine (tNewCoinsSet2 A1 cs.length c1 cs _ rfl (by have := HC.out; omega) (own_at HO.out).1 (fun x hx => by have := HSZ.out x (HM.out x hx); unfold maxLen at this; omega) HB2.out).mono ?_
      rintro e w9 ⟨v, rfl, ho, hE⟩
      have HO9 := Lib.hid ho; have HE9 := Lib.hid hE; clear ho hE
      go_wp2
      go_ret
      exact ⟨v, rfl, HCS.out ▸ own_lower HO9.out HE.out.size, HE.out.trans' HE9.out⟩

set_option maxRecDepth 100000 in
set_option maxHeartbeats 4000000 in
theorem tMax (A B : Option Addr) (n c m d : Nat) (la lb : List Co) (w : World) (hla : la.length = n) (hlb : lb.length = m) (hn : n ≤ 20) (hm : m ≤ 20) (hA : CoinsAt w A la) (hB : CoinsAt w B lb)
    (hsz : ∀ x ∈ la ++ lb, x.s.size ≤ maxLen) (hz : ∀ x ∈ la ++ lb, x.z.natAbs < B64) (hp : ∀ x ∈ la ++ lb, 0 < x.z) (hb : isB ((maxL la lb).map Co.val) = true) :
    Calls Tryz.prog 110 #[.slice A n c, .slice B m d] w (RetOwn (maxL la lb) w) := by
  obtain ⟨i0, hi, hz0, hz1, hz2⟩ := info_parts infoCoin
  have HLA := Lib.hid hla; have HLB := Lib.hid hlb; have HPA := Lib.hid hA; have HPB := Lib.hid hB; have HSZ := Lib.hid hsz; have HZ := Lib.hid hz; have HP := Lib.hid hp; have HB := Lib.hid hb
  clear hla hlb hA hB hsz hz hp hb
  go_enter Tryz.func110, Tryz.ntmps110
  go_wp2_with (first | (at_make; refine wpList_make_own _ rfl _ _ 70 rfl w.heap.size 81 i0 _ 2 Tryz.underlying70 hi hz0 hz1 .i64 .i64 (0 : Int) 0 rfl rfl rfl (by rw [hz2]; omega) (by unfold maxLen; omega) (Nat.le_refl _) ?_; intro w0 hown0 hg0; have HO0 := Lib.hid (show CoinsOwn w0 w.heap.size _ [] from ⟨hown0, fun _ h => by cases h⟩); have HE0 := Lib.hid (ext_none hg0); clear hown0 hg0))
  go_loopw [5, 6, 7] (fun v i j wr => ∃ (p q : Nat) (cs : List Co), p ≤ n ∧ q ≤ m ∧ i = .int .i64 p ∧ j = .int .i64 q ∧ cs.length ≤ p + q ∧ cs ++ maxL (la.drop p) (lb.drop q) = maxL la lb ∧ CoinsOwn wr w.heap.size v cs ∧ Ext w wr) (fun _ i j _ => (n - (intOf i).toNat) + (m - (intOf j).toNat))
  case atStart => exact ⟨0, 0, [], Nat.zero_le _, Nat.zero_le _, rfl, rfl, Nat.zero_le _, by simp, HO0.out, HE0.out⟩
  case round =>
    obtain ⟨p, q, cs, hp, hq, rfl, rfl, hcl, hcv, hown, hE⟩ := hrel
    have HC := Lib.hid hcl; have HV := Lib.hid hcv; have HO := Lib.hid hown; have HE := Lib.hid hE
    clear hcl hcv hown hE HO0
    by_cases hlt : p < n
    · by_cases hlt2 : q < m
      · have hcl : True := trivial
        have hkp : p < la.length := by rw [HLA.out]; exact hlt
        have hkq : q < lb.length := by rw [HLB.out]; exact hlt2
        obtain ⟨s, hs⟩ : ∃ s, s = la[p].s := ⟨_, rfl⟩
        obtain ⟨a, ha⟩ : ∃ b, b = la[p].b := ⟨_, rfl⟩
        obtain ⟨y, hy⟩ : ∃ z, z = la[p].z := ⟨_, rfl⟩
        obtain ⟨t, ht⟩ : ∃ s, s = lb[q].s := ⟨_, rfl⟩
        obtain ⟨b, hb⟩ : ∃ b, b = lb[q].b := ⟨_, rfl⟩
        obtain ⟨z, hzz⟩ : ∃ z, z = lb[q].z := ⟨_, rfl⟩
        obtain ⟨g, o, hA, hc⟩ := HPA.out.1 (by intro e; have := congrArg List.length e; simp at this; rw [this] at hkp; simp at hkp)
        obtain ⟨g', o', hB, hc'⟩ := HPB.out.1 (by intro e; have := congrArg List.length e; simp at this; rw [this] at hkq; simp at hkq)
        subst hA; subst hB
        have hck := hc p (by simpa using hkp)
        have hck' := hc' q (by simpa using hkq)
        have cs0 : wr.cell? ⟨g, o + p * 2, none⟩ = some (.string s) := HE.out.cell' (by rw [hck.1, hs]; simp [Co.pair])
        have cs1 : wr.cell? ⟨g, o + p * 2 + 1, none⟩ = some (.pointer (some ⟨a, 0, none⟩)) := HE.out.cell' (by rw [hck.2, ha]; simp [Co.pair])
        have ct0 : wr.cell? ⟨g', o' + q * 2, none⟩ = some (.string t) := HE.out.cell' (by rw [hck'.1, ht]; simp [Co.pair])
        have ct1 : wr.cell? ⟨g', o' + q * 2 + 1, none⟩ = some (.pointer (some ⟨b, 0, none⟩)) := HE.out.cell' (by rw [hck'.2, hb]; simp [Co.pair])
        have g1 := cell_lt cs0; have g2 := cell_lt ct0
        have HX := Lib.hid (show la[p] = ⟨s, a, y⟩ by rw [hs, ha, hy])
        have HY := Lib.hid (show lb[q] = ⟨t, b, z⟩ by rw [ht, hb, hzz])
        have HBA := Lib.hid (show BigAt wr a y by rw [ha, hy]; exact (HPA.out.2 _ (List.getElem_mem hkp)).ext HE.out)
        have HBB := Lib.hid (show BigAt wr b z by rw [hb, hzz]; exact (HPB.out.2 _ (List.getElem_mem hkq)).ext HE.out)
        have HZA := Lib.hid (show y.natAbs < B64 ∧ 0 < y by rw [hy]; exact ⟨HZ.out _ (List.mem_append_left _ (List.getElem_mem hkp)), HP.out _ (List.mem_append_left _ (List.getElem_mem hkp))⟩)
        have HZB := Lib.hid (show z.natAbs < B64 ∧ 0 < z by rw [hzz]; exact ⟨HZ.out _ (List.mem_append_right _ (List.getElem_mem hkq)), HP.out _ (List.mem_append_right _ (List.getElem_mem hkq))⟩)
        have b0 : (0 : Int) ≤ (p : Int) := by omega
        have b1 : (0 : Int) ≤ (q : Int) := by omega
        have b2 : (p : Int) < (n : Int) := by omega
        have b3 : (q : Int) < (m : Int) := by omega
        obtain ⟨r, hr⟩ : ∃ r, r = (if keyLt s t = true then (-1 : Int) else if keyLt t s = true then 1 else 0) := ⟨_, rfl⟩
        have HCMP := Lib.hid (fun (W : World) => cmpS s t W)
        rw [← hr] at HCMP
        have HR := Lib.hid hr
        clear hs ha hy ht hb hzz hck hck' hc hc' hr
        go_wp2_with (fail)
        go_region
        all_goals (go_wp2_with (fail); go_at_call 147; refine (HCMP.out _).mono ?_; rintro e w1 ⟨rfl, hw1⟩)
        all_goals (first | (have K8 := Lib.hid (show Blk w1 wr.heap.size 81 [.string s, .pointer (some ⟨a, 0, none⟩)] by rw [hw1]; exact ((blk_new0 wr 81 [.string s, .pointer (some ⟨a, 0, none⟩)]).ext (Ext.alloc' _ _)).ext (Ext.drewN' _ 1)); have K9 := Lib.hid (show Blk w1 (wr.heap.size + 1) 81 [.string t, .pointer (some ⟨b, 0, none⟩)] by rw [hw1]; have k := (blk_new0 (wr.alloc (.cells #[.string s, .pointer (some ⟨a, 0, none⟩)] 81)) 81 [.string t, .pointer (some ⟨b, 0, none⟩)]).ext (Ext.drewN' _ 1); rw [show (wr.alloc (.cells #[.string s, .pointer (some ⟨a, 0, none⟩)] 81)).heap.size = wr.heap.size + 1 by simp] at k; exact k); have HE1 := Lib.hid (show Ext wr w1 by rw [hw1]; exact ((Ext.alloc' _ _).trans' (Ext.alloc' _ _)).trans' (Ext.drewN' _ 1)); generalize wr.heap.size + 1 = G9 at K9 ⊢; generalize wr.heap.size = G8 at K8 ⊢; clear hw1 g1 g2 cs0 cs1 ct0 ct1) | (have K9 := Lib.hid (show Blk w1 wr.heap.size 81 [.string t, .pointer (some ⟨b, 0, none⟩)] by rw [hw1]; exact ((blk_new0 wr 81 [.string t, .pointer (some ⟨b, 0, none⟩)]).ext (Ext.alloc' _ _)).ext (Ext.drewN' _ 1)); have K8 := Lib.hid (show Blk w1 (wr.heap.size + 1) 81 [.string s, .pointer (some ⟨a, 0, none⟩)] by rw [hw1]; have k := (blk_new0 (wr.alloc (.cells #[.string t, .pointer (some ⟨b, 0, none⟩)] 81)) 81 [.string s, .pointer (some ⟨a, 0, none⟩)]).ext (Ext.drewN' _ 1); rw [show (wr.alloc (.cells #[.string t, .pointer (some ⟨b, 0, none⟩)] 81)).heap.size = wr.heap.size + 1 by simp] at k; exact k); have HE1 := Lib.hid (show Ext wr w1 by rw [hw1]; exact ((Ext.alloc' _ _).trans' (Ext.alloc' _ _)).trans' (Ext.drewN' _ 1)); generalize wr.heap.size + 1 = G8 at K8 ⊢; generalize wr.heap.size = G9 at K9 ⊢; clear hw1 g1 g2 cs0 cs1 ct0 ct1))
        all_goals (
          cases hk : keyLt s t
          · cases hk2 : keyLt t s
            · obtain rfl := keyLt_tri hk hk2
              obtain rfl : r = 0 := by rw [HR.out, hk]; rfl
              have HKK := Lib.hid hk
              have q8 := cells_two K8.out; have q9 := cells_two K9.out
              obtain ⟨c80, c81, l8⟩ := q8; obtain ⟨c90, c91, l9⟩ := q9
              have HLT := Lib.hid (fun (W : World) (e : Ext wr W) => mGT b a z y W (HBB.out.ext e) (HBA.out.ext e) HZB.out.1 HZA.out.1)
              rw [cmp_gt] at HLT
              clear hk hk2
              by_cases hzy : y < z
              · rw [decide_eq_true hzy] at HLT
                have HZY := Lib.hid hzy; clear hzy
                go_wp2_with (fail)
                go_at_call 133
                refine (HLT.out _ (HE1.out.trans' (Ext.alloc' _ _))).mono ?_
                rintro e w2 ⟨rfl, hE⟩
                have hE2 := (Ext.alloc' _ _).trans' hE
                have k10 := (blk_new0 w1 81 [.string s, .pointer (some ⟨a, 0, none⟩)]).ext hE
                obtain ⟨d90, d91, m9⟩ := cells_two (K9.out.ext hE2)
                obtain ⟨e0, e1, m10⟩ := cells_two k10
                have f0 := k10.frozen 0; have f1 := k10.frozen 1
                have HEX := Lib.hid (Only.ext hE2 (((Only.refl w1.heap.size w2).set_ 0 (.string s)).set_ 1 (.pointer (some ⟨b, 0, none⟩))) (Nat.le_refl _))
                have HK11 := Lib.hid ((k10.set_ 0 (.string s)).set_ 1 (.pointer (some ⟨b, 0, none⟩)))
                have HE2 := Lib.hid (HE1.out.trans' HEX.out)
                obtain ⟨p0, p1, m11⟩ := cells_two HK11.out
                clear hE hE2 c80 c81 l8 c90 c91 l9 k10
                go_wp2_with (first | (at_builtin; go_loud (refine wpList_append_own_at _ rfl (.tmp 52) (.tmp 54) 70 rfl w.heap.size 81 i0 _ 2 24 Tryz.underlying70 hi hz0 hz1 hz2 rfl (by decide) u5 cs.length (flat2 (cs.map Co.pair)) rfl (owns_ext (HO.out.ext HE2.out).1 (ext1 _ _)) ⟨w2.heap.size, 0, none⟩ 1 1 [.string s, .pointer (some ⟨b, 0, none⟩)] rfl rfl (by have k := cell_two_new ((w2.setCell ⟨w1.heap.size, 0, none⟩ (.string s)).setCell ⟨w1.heap.size, 1, none⟩ (.pointer (some ⟨b, 0, none⟩))) (.string s) (.pointer (some ⟨b, 0, none⟩)) 81; rw [show ((w2.setCell ⟨w1.heap.size, 0, none⟩ (.string s)).setCell ⟨w1.heap.size, 1, none⟩ (.pointer (some ⟨b, 0, none⟩))).heap.size = w2.heap.size by simp] at k; exact k) (two_one _ _ rfl rfl) (by have := HC.out; unfold maxLen; omega) (by have := HC.out; omega) (by have := HE.out.size; have := (HE2.out).size; simp at this ⊢; omega) ?_); intro v' w5 hown hgrow _ _; have R := Lib.hid (coins_push ((HO.out.ext HE2.out).ext (ext1 _ _)) ((HBB.out.ext HE2.out).ext (ext1 _ _)) ((HE.out.trans' HE2.out).trans' (ext1 _ _)) hown hgrow); clear hown hgrow))
                go_roundw
                case rel =>
                  refine ⟨p + 1, q + 1, cs ++ [⟨s, b, z⟩], by omega, by omega, by go_num, by go_num, by have := HC.out; simp; omega, ?_, R.out.1, R.out.2⟩
                  have hv := HV.out; rw [drop_at hkp, drop_at hkq, HX.out, HY.out, maxL_cons, if_neg (by rw [HKK.out]; simp), if_neg (by rw [HKK.out]; simp), if_pos HZY.out] at hv; rw [List.append_assoc]; exact hv
                case measure => simp [intOf]; omega
              · rw [decide_eq_false hzy] at HLT
                have HZY := Lib.hid hzy; clear hzy
                go_wp2_with (fail)
                go_at_call 133
                refine (HLT.out _ (HE1.out.trans' (Ext.alloc' _ _))).mono ?_
                rintro e w2 ⟨rfl, hE⟩
                have hE2 := (Ext.alloc' _ _).trans' hE
                have k10 := (blk_new0 w1 81 [.string s, .pointer (some ⟨a, 0, none⟩)]).ext hE
                obtain ⟨d90, d91, m9⟩ := cells_two (K9.out.ext hE2)
                obtain ⟨e0, e1, m10⟩ := cells_two k10
                have f0 := k10.frozen 0; have f1 := k10.frozen 1
                have HEX := Lib.hid (Only.ext hE2 (((Only.refl w1.heap.size w2).set_ 0 (.string s)).set_ 1 (.pointer (some ⟨b, 0, none⟩))) (Nat.le_refl _))
                have HK11 := Lib.hid ((k10.set_ 0 (.string s)).set_ 1 (.pointer (some ⟨b, 0, none⟩)))
                have HE2 := Lib.hid (HE1.out.trans' hE2)
                clear hE hE2 c80 c81 l8 c90 c91 l9 k10
                go_wp2_with (first | (at_builtin; refine wpList_append_own_at _ rfl (.tmp 52) (.tmp 54) 70 rfl w.heap.size 81 i0 _ 2 24 Tryz.underlying70 hi hz0 hz1 hz2 rfl (by decide) u5 cs.length (flat2 (cs.map Co.pair)) rfl (owns_ext (HO.out.ext HE2.out).1 (ext1 _ _)) ⟨w2.heap.size, 0, none⟩ 1 1 [.string s, .pointer (some ⟨a, 0, none⟩)] rfl rfl (cell_two_new _ _ _ _) (two_one _ _ rfl rfl) (by have := HC.out; unfold maxLen; omega) (by have := HC.out; omega) (by have := HE.out.size; have := (HE2.out).size; simp; omega) ?_; intro v' w5 hown hgrow _ _; have R := Lib.hid (coins_push ((HO.out.ext HE2.out).ext (ext1 _ _)) ((HBA.out.ext HE2.out).ext (ext1 _ _)) ((HE.out.trans' HE2.out).trans' (ext1 _ _)) hown hgrow); clear hown hgrow))
                go_roundw
                case rel =>
                  refine ⟨p + 1, q + 1, cs ++ [⟨s, a, y⟩], by omega, by omega, by go_num, by go_num, by have := HC.out; simp; omega, ?_, R.out.1, R.out.2⟩
                  have hv := HV.out; rw [drop_at hkp, drop_at hkq, HX.out, HY.out, maxL_cons, if_neg (by rw [HKK.out]; simp), if_neg (by rw [HKK.out]; simp), if_neg (by have := HZY.out; dsimp only; omega)] at hv; rw [List.append_assoc]; exact hv
                case measure => simp [intOf]; omega
            · obtain rfl : r = 1 := by rw [HR.out, hk, hk2]; rfl
              have HK1 := Lib.hid hk; have HK2 := Lib.hid hk2
              have q9 := cells_two K9.out
              obtain ⟨c90, c91, l9⟩ := q9
              clear hk hk2
              go_wp2_with (first | (at_builtin; refine wpList_append_own_at _ rfl (.tmp 62) (.tmp 64) 70 rfl w.heap.size 81 i0 _ 2 24 Tryz.underlying70 hi hz0 hz1 hz2 rfl (by decide) u5 cs.length (flat2 (cs.map Co.pair)) rfl (owns_ext (HO.out.ext HE1.out).1 (ext1 _ _)) ⟨w1.heap.size, 0, none⟩ 1 1 [.string t, .pointer (some ⟨b, 0, none⟩)] rfl rfl (cell_two_new _ _ _ _) (two_one _ _ rfl rfl) (by have := HC.out; unfold maxLen; omega) (by have := HC.out; omega) (by have := HE.out.size; have := (HE1.out).size; simp; omega) ?_; intro v' w5 hown hgrow _ _; have R := Lib.hid (coins_push ((HO.out.ext HE1.out).ext (ext1 _ _)) ((HBB.out.ext HE1.out).ext (ext1 _ _)) ((HE.out.trans' HE1.out).trans' (ext1 _ _)) hown hgrow); clear hown hgrow))
              go_roundw
              case rel =>
                refine ⟨p, q + 1, cs ++ [⟨t, b, z⟩], by omega, by omega, rfl, by go_num, by have := HC.out; simp; omega, ?_, R.out.1, R.out.2⟩
                have hv := HV.out; rw [drop_at hkp, drop_at hkq, HX.out, HY.out, maxL_cons, if_neg (by rw [HK1.out]; simp), if_pos HK2.out, ← HX.out, ← drop_at hkp] at hv; rw [List.append_assoc]; exact hv
              case measure => simp [intOf]; omega
          · obtain rfl : r = -1 := by rw [HR.out, hk]; rfl
            have HK1 := Lib.hid hk
            have q8 := cells_two K8.out
            obtain ⟨c80, c81, l8⟩ := q8
            clear hk
            go_wp2_with (first | (at_builtin; refine wpList_append_own_at _ rfl (.tmp 37) (.tmp 39) 70 rfl w.heap.size 81 i0 _ 2 24 Tryz.underlying70 hi hz0 hz1 hz2 rfl (by decide) u5 cs.length (flat2 (cs.map Co.pair)) rfl (owns_ext (HO.out.ext HE1.out).1 (ext1 _ _)) ⟨w1.heap.size, 0, none⟩ 1 1 [.string s, .pointer (some ⟨a, 0, none⟩)] rfl rfl (cell_two_new _ _ _ _) (two_one _ _ rfl rfl) (by have := HC.out; unfold maxLen; omega) (by have := HC.out; omega) (by have := HE.out.size; have := (HE1.out).size; simp; omega) ?_; intro v' w5 hown hgrow _ _; have R := Lib.hid (coins_push ((HO.out.ext HE1.out).ext (ext1 _ _)) ((HBA.out.ext HE1.out).ext (ext1 _ _)) ((HE.out.trans' HE1.out).trans' (ext1 _ _)) hown hgrow); clear hown hgrow))
            go_roundw
            case rel =>
              refine ⟨p + 1, q, cs ++ [⟨s, a, y⟩], by omega, by omega, by go_num, rfl, by have := HC.out; simp; omega, ?_, R.out.1, R.out.2⟩
              have hv := HV.out; rw [drop_at hkp, drop_at hkq, HX.out, HY.out, maxL_cons, if_pos HK1.out, ← HY.out, ← drop_at hkq] at hv; rw [List.append_assoc]; exact hv
            case measure => simp [intOf]; omega
        )
      · have b4 : (p : Int) < (n : Int) := by omega
        have b5 : ¬ (q : Int) < (m : Int) := by omega
        have HQ := Lib.hid (show p < n → q = m by omega)
        obtain ⟨W1, hW1⟩ : ∃ W1, W1 = wr := ⟨_, rfl⟩
        subst hW1
        go_wp2_with (fail)
        clear hlt hlt2 b4 b5
        go_loopw [5, 6] (fun v i wr => ∃ (p : Nat) (cs : List Co), p ≤ n ∧ i = .int .i64 p ∧ cs.length ≤ p + q ∧ (p < n → q = m) ∧ cs ++ maxL (la.drop p) (lb.drop q) = maxL la lb ∧ CoinsOwn wr w.heap.size v cs ∧ Ext w wr) (fun _ i _ => n - (intOf i).toNat)
        case atStart => exact ⟨p, cs, by omega, rfl, HC.out, HQ.out, HV.out, HO.out, HE.out⟩
        case round =>
          clear HC HV HO HE HQ
          obtain ⟨p, cs, hp, rfl, hcl, hpq, hcv, hown, hE⟩ := hrel
          have HC := Lib.hid hcl; have HV := Lib.hid hcv; have HO := Lib.hid hown; have HE := Lib.hid hE; have HQ := Lib.hid hpq
          clear hcl hcv hown hE hpq
          by_cases hlt : p < n
          · have hkp : p < la.length := by rw [HLA.out]; exact hlt
            obtain ⟨s, hs⟩ : ∃ s, s = la[p].s := ⟨_, rfl⟩
            obtain ⟨a, ha⟩ : ∃ b, b = la[p].b := ⟨_, rfl⟩
            obtain ⟨y, hy⟩ : ∃ z, z = la[p].z := ⟨_, rfl⟩
            obtain ⟨g, o, hA, hc⟩ := HPA.out.1 (by intro e; have := congrArg List.length e; simp at this; rw [this] at hkp; simp at hkp)
            subst hA
            have hck := hc p (by simpa using hkp)
            have cs0 : wr.cell? ⟨g, o + p * 2, none⟩ = some (.string s) := HE.out.cell' (by rw [hck.1, hs]; simp [Co.pair])
            have cs1 : wr.cell? ⟨g, o + p * 2 + 1, none⟩ = some (.pointer (some ⟨a, 0, none⟩)) := HE.out.cell' (by rw [hck.2, ha]; simp [Co.pair])
            have HX := Lib.hid (show la[p] = ⟨s, a, y⟩ by rw [hs, ha, hy])
            have HBA := Lib.hid (show BigAt wr a y by rw [ha, hy]; exact (HPA.out.2 _ (List.getElem_mem hkp)).ext HE.out)
            have b0 : (0 : Int) ≤ (p : Int) := by omega
            have b2 : (p : Int) < (n : Int) := by omega
            clear hs ha hy hck hc
            go_wp2_with (first | (at_builtin; refine wpList_append_own_at _ rfl (.tmp 74) (.tmp 79) 70 rfl w.heap.size 81 i0 _ 2 24 Tryz.underlying70 hi hz0 hz1 hz2 rfl (by decide) u5 cs.length (flat2 (cs.map Co.pair)) rfl (owns_ext (HO.out.ext (Ext.refl wr)).1 (ext1 _ _)) ⟨wr.heap.size, 0, none⟩ 1 1 [.string s, .pointer (some ⟨a, 0, none⟩)] rfl rfl (cell_two_new _ _ _ _) (two_one _ _ rfl rfl) (by have := HC.out; unfold maxLen; omega) (by have := HC.out; omega) (by have := HE.out.size; have := ((Ext.refl wr)).size; simp; omega) ?_; intro v' w5 hown hgrow _ _; have R := Lib.hid (coins_push ((HO.out.ext (Ext.refl wr)).ext (ext1 _ _)) ((HBA.out.ext (Ext.refl wr)).ext (ext1 _ _)) ((HE.out.trans' (Ext.refl wr)).trans' (ext1 _ _)) hown hgrow); clear hown hgrow))
            go_roundw
            case rel =>
              refine ⟨p + 1, cs ++ [⟨s, a, y⟩], by omega, by go_num, by have := HC.out; simp; omega, fun _ => HQ.out hlt, ?_, R.out.1, R.out.2⟩
              have hv := HV.out
              have hq := HQ.out hlt
              rw [List.drop_of_length_le (l := lb) (by rw [HLB.out, hq]; exact Nat.le_refl _), maxL_nil] at hv ⊢
              rw [drop_at hkp, HX.out] at hv; rw [List.append_assoc]; exact hv
            case measure => simp [intOf]; omega
          · obtain rfl : p = n := by omega
            have hv := HV.out
            rw [List.drop_of_length_le (l := la) (by rw [HLA.out]; exact Nat.le_refl _), maxL_nil'] at hv
            have HV2 := Lib.hid hv; clear hv
            clear HV HQ hlt
            obtain ⟨W1, hW1⟩ : ∃ W1, W1 = wr := ⟨_, rfl⟩
            subst hW1
            go_wp2_with (fail)
            go_loopw [5, 7] (fun v i wr => ∃ (q : Nat) (cs : List Co), q ≤ m ∧ i = .int .i64 q ∧ cs.length ≤ p + q ∧ cs ++ lb.drop q = maxL la lb ∧ CoinsOwn wr w.heap.size v cs ∧ Ext w wr) (fun _ i _ => m - (intOf i).toNat)
            case atStart => exact ⟨q, cs, by omega, rfl, HC.out, HV2.out, HO.out, HE.out⟩
            case round =>
              clear HC HV2 HO HE
              obtain ⟨q, cs, hq, rfl, hcl, hcv, hown, hE⟩ := hrel
              have HC := Lib.hid hcl; have HV := Lib.hid hcv; have HO := Lib.hid hown; have HE := Lib.hid hE
              clear hcl hcv hown hE
              by_cases hlt2 : q < m
              · have hkq : q < lb.length := by rw [HLB.out]; exact hlt2
                obtain ⟨t, ht⟩ : ∃ s, s = lb[q].s := ⟨_, rfl⟩
                obtain ⟨b, hb⟩ : ∃ b, b = lb[q].b := ⟨_, rfl⟩
                obtain ⟨z, hzz⟩ : ∃ z, z = lb[q].z := ⟨_, rfl⟩
                obtain ⟨g', o', hB, hc'⟩ := HPB.out.1 (by intro e; have := congrArg List.length e; simp at this; rw [this] at hkq; simp at hkq)
                subst hB
                have hck' := hc' q (by simpa using hkq)
                have ct0 : wr.cell? ⟨g', o' + q * 2, none⟩ = some (.string t) := HE.out.cell' (by rw [hck'.1, ht]; simp [Co.pair])
                have ct1 : wr.cell? ⟨g', o' + q * 2 + 1, none⟩ = some (.pointer (some ⟨b, 0, none⟩)) := HE.out.cell' (by rw [hck'.2, hb]; simp [Co.pair])
                have HY := Lib.hid (show lb[q] = ⟨t, b, z⟩ by rw [ht, hb, hzz])
                have HBB := Lib.hid (show BigAt wr b z by rw [hb, hzz]; exact (HPB.out.2 _ (List.getElem_mem hkq)).ext HE.out)
                have b1 : (0 : Int) ≤ (q : Int) := by omega
                have b3 : (q : Int) < (m : Int) := by omega
                clear ht hb hzz hck' hc'
                go_wp2_with (first | (at_builtin; refine wpList_append_own_at _ rfl (.tmp 87) (.tmp 92) 70 rfl w.heap.size 81 i0 _ 2 24 Tryz.underlying70 hi hz0 hz1 hz2 rfl (by decide) u5 cs.length (flat2 (cs.map Co.pair)) rfl (owns_ext (HO.out.ext (Ext.refl wr)).1 (ext1 _ _)) ⟨wr.heap.size, 0, none⟩ 1 1 [.string t, .pointer (some ⟨b, 0, none⟩)] rfl rfl (cell_two_new _ _ _ _) (two_one _ _ rfl rfl) (by have := HC.out; unfold maxLen; omega) (by have := HC.out; omega) (by have := HE.out.size; have := ((Ext.refl wr)).size; simp; omega) ?_; intro v' w5 hown hgrow _ _; have R := Lib.hid (coins_push ((HO.out.ext (Ext.refl wr)).ext (ext1 _ _)) ((HBB.out.ext (Ext.refl wr)).ext (ext1 _ _)) ((HE.out.trans' (Ext.refl wr)).trans' (ext1 _ _)) hown hgrow); clear hown hgrow))
                go_roundw
                case rel =>
                  refine ⟨q + 1, cs ++ [⟨t, b, z⟩], by omega, by go_num, by have := HC.out; simp; omega, ?_, R.out.1, R.out.2⟩
                  have hv := HV.out
                  rw [drop_at hkq, HY.out] at hv; rw [List.append_assoc]; exact hv
                case measure => simp [intOf]; omega
              · obtain rfl : q = m := by omega
                have hv := HV.out
                rw [List.drop_of_length_le (l := lb) (by rw [HLB.out]; exact Nat.le_refl _), List.append_nil] at hv
                have HCS := Lib.hid hv; clear hv
                have HM := Lib.hid (show ∀ x ∈ cs, x ∈ la ++ lb from fun x hx => List.mem_append.2 (maxL_mem _ la lb rfl x (by rw [← HCS.out]; exact hx)))
                have HB2 := Lib.hid (show isB (cs.map Co.val) = true by rw [HCS.out]; exact HB.out)
                obtain ⟨A1, c1, rfl⟩ := coins_shape HO.out
                go_wp2_with (fail)
                go_at_call 145
                refine (tNewCoinsSet2 A1 cs.length c1 cs _ rfl (by have := HC.out; omega) (own_at HO.out).1 (fun x hx => by have := HSZ.out x (HM.out x hx); unfold maxLen at this; omega) HB2.out).mono ?_
                rintro e w9 ⟨v, rfl, ho, hE⟩
                have HO9 := Lib.hid ho; have HE9 := Lib.hid hE; clear ho hE
                go_wp2
                go_ret
                exact ⟨v, rfl, HCS.out ▸ own_lower HO9.out HE.out.size, HE.out.trans' HE9.out⟩
    · have b4 : ¬ (p : Int) < (n : Int) := by omega
      have HQ := Lib.hid (show p < n → q = m by omega)
      obtain ⟨W1, hW1⟩ : ∃ W1, W1 = wr := ⟨_, rfl⟩
      subst hW1
      go_wp2_with (fail)
      clear hlt b4
      go_loopw [5, 6] (fun v i wr => ∃ (p : Nat) (cs : List Co), p ≤ n ∧ i = .int .i64 p ∧ cs.length ≤ p + q ∧ (p < n → q = m) ∧ cs ++ maxL (la.drop p) (lb.drop q) = maxL la lb ∧ CoinsOwn wr w.heap.size v cs ∧ Ext w wr) (fun _ i _ => n - (intOf i).toNat)
      case atStart => exact ⟨p, cs, by omega, rfl, HC.out, HQ.out, HV.out, HO.out, HE.out⟩
      case round =>
        clear HC HV HO HE HQ
        obtain ⟨p, cs, hp, rfl, hcl, hpq, hcv, hown, hE⟩ := hrel
        have HC := Lib.hid hcl; have HV := Lib.hid hcv; have HO := Lib.hid hown; have HE := Lib.hid hE; have HQ := Lib.hid hpq
        clear hcl hcv hown hE hpq
        by_cases hlt : p < n
        · have hkp : p < la.length := by rw [HLA.out]; exact hlt
          obtain ⟨s, hs⟩ : ∃ s, s = la[p].s := ⟨_, rfl⟩
          obtain ⟨a, ha⟩ : ∃ b, b = la[p].b := ⟨_, rfl⟩
          obtain ⟨y, hy⟩ : ∃ z, z = la[p].z := ⟨_, rfl⟩
          obtain ⟨g, o, hA, hc⟩ := HPA.out.1 (by intro e; have := congrArg List.length e; simp at this; rw [this] at hkp; simp at hkp)
          subst hA
          have hck := hc p (by simpa using hkp)
          have cs0 : wr.cell? ⟨g, o + p * 2, none⟩ = some (.string s) := HE.out.cell' (by rw [hck.1, hs]; simp [Co.pair])
          have cs1 : wr.cell? ⟨g, o + p * 2 + 1, none⟩ = some (.pointer (some ⟨a, 0, none⟩)) := HE.out.cell' (by rw [hck.2, ha]; simp [Co.pair])
          have HX := Lib.hid (show la[p] = ⟨s, a, y⟩ by rw [hs, ha, hy])
          have HBA := Lib.hid (show BigAt wr a y by rw [ha, hy]; exact (HPA.out.2 _ (List.getElem_mem hkp)).ext HE.out)
          have b0 : (0 : Int) ≤ (p : Int) := by omega
          have b2 : (p : Int) < (n : Int) := by omega
          clear hs ha hy hck hc
          go_wp2_with (first | (at_builtin; refine wpList_append_own_at _ rfl (.tmp 74) (.tmp 79) 70 rfl w.heap.size 81 i0 _ 2 24 Tryz.underlying70 hi hz0 hz1 hz2 rfl (by decide) u5 cs.length (flat2 (cs.map Co.pair)) rfl (owns_ext (HO.out.ext (Ext.refl wr)).1 (ext1 _ _)) ⟨wr.heap.size, 0, none⟩ 1 1 [.string s, .pointer (some ⟨a, 0, none⟩)] rfl rfl (cell_two_new _ _ _ _) (two_one _ _ rfl rfl) (by have := HC.out; unfold maxLen; omega) (by have := HC.out; omega) (by have := HE.out.size; have := ((Ext.refl wr)).size; simp; omega) ?_; intro v' w5 hown hgrow _ _; have R := Lib.hid (coins_push ((HO.out.ext (Ext.refl wr)).ext (ext1 _ _)) ((HBA.out.ext (Ext.refl wr)).ext (ext1 _ _)) ((HE.out.trans' (Ext.refl wr)).trans' (ext1 _ _)) hown hgrow); clear hown hgrow))
          go_roundw
          case rel =>
            refine ⟨p + 1, cs ++ [⟨s, a, y⟩], by omega, by go_num, by have := HC.out; simp; omega, fun _ => HQ.out hlt, ?_, R.out.1, R.out.2⟩
            have hv := HV.out
            have hq := HQ.out hlt
            rw [List.drop_of_length_le (l := lb) (by rw [HLB.out, hq]; exact Nat.le_refl _), maxL_nil] at hv ⊢
            rw [drop_at hkp, HX.out] at hv; rw [List.append_assoc]; exact hv
          case measure => simp [intOf]; omega
        · obtain rfl : p = n := by omega
          have hv := HV.out
          rw [List.drop_of_length_le (l := la) (by rw [HLA.out]; exact Nat.le_refl _), maxL_nil'] at hv
          have HV2 := Lib.hid hv; clear hv
          clear HV HQ hlt
          obtain ⟨W1, hW1⟩ : ∃ W1, W1 = wr := ⟨_, rfl⟩
          subst hW1
          go_wp2_with (fail)
          go_loopw [5, 7] (fun v i wr => ∃ (q : Nat) (cs : List Co), q ≤ m ∧ i = .int .i64 q ∧ cs.length ≤ p + q ∧ cs ++ lb.drop q = maxL la lb ∧ CoinsOwn wr w.heap.size v cs ∧ Ext w wr) (fun _ i _ => m - (intOf i).toNat)
          case atStart => exact ⟨q, cs, by omega, rfl, HC.out, HV2.out, HO.out, HE.out⟩
          case round =>
            clear HC HV2 HO HE
            obtain ⟨q, cs, hq, rfl, hcl, hcv, hown, hE⟩ := hrel
            have HC := Lib.hid hcl; have HV := Lib.hid hcv; have HO := Lib.hid hown; have HE := Lib.hid hE
            clear hcl hcv hown hE
            by_cases hlt2 : q < m
            · have hkq : q < lb.length := by rw [HLB.out]; exact hlt2
              obtain ⟨t, ht⟩ : ∃ s, s = lb[q].s := ⟨_, rfl⟩
              obtain ⟨b, hb⟩ : ∃ b, b = lb[q].b := ⟨_, rfl⟩
              obtain ⟨z, hzz⟩ : ∃ z, z = lb[q].z := ⟨_, rfl⟩
              obtain ⟨g', o', hB, hc'⟩ := HPB.out.1 (by intro e; have := congrArg List.length e; simp at this; rw [this] at hkq; simp at hkq)
              subst hB
              have hck' := hc' q (by simpa using hkq)
              have ct0 : wr.cell? ⟨g', o' + q * 2, none⟩ = some (.string t) := HE.out.cell' (by rw [hck'.1, ht]; simp [Co.pair])
              have ct1 : wr.cell? ⟨g', o' + q * 2 + 1, none⟩ = some (.pointer (some ⟨b, 0, none⟩)) := HE.out.cell' (by rw [hck'.2, hb]; simp [Co.pair])
              have HY := Lib.hid (show lb[q] = ⟨t, b, z⟩ by rw [ht, hb, hzz])
              have HBB := Lib.hid (show BigAt wr b z by rw [hb, hzz]; exact (HPB.out.2 _ (List.getElem_mem hkq)).ext HE.out)
              have b1 : (0 : Int) ≤ (q : Int) := by omega
              have b3 : (q : Int) < (m : Int) := by omega
              clear ht hb hzz hck' hc'
              go_wp2_with (first | (at_builtin; refine wpList_append_own_at _ rfl (.tmp 87) (.tmp 92) 70 rfl w.heap.size 81 i0 _ 2 24 Tryz.underlying70 hi hz0 hz1 hz2 rfl (by decide) u5 cs.length (flat2 (cs.map Co.pair)) rfl (owns_ext (HO.out.ext (Ext.refl wr)).1 (ext1 _ _)) ⟨wr.heap.size, 0, none⟩ 1 1 [.string t, .pointer (some ⟨b, 0, none⟩)] rfl rfl (cell_two_new _ _ _ _) (two_one _ _ rfl rfl) (by have := HC.out; unfold maxLen; omega) (by have := HC.out; omega) (by have := HE.out.size; have := ((Ext.refl wr)).size; simp; omega) ?_; intro v' w5 hown hgrow _ _; have R := Lib.hid (coins_push ((HO.out.ext (Ext.refl wr)).ext (ext1 _ _)) ((HBB.out.ext (Ext.refl wr)).ext (ext1 _ _)) ((HE.out.trans' (Ext.refl wr)).trans' (ext1 _ _)) hown hgrow); clear hown hgrow))
              go_roundw
              case rel =>
                refine ⟨q + 1, cs ++ [⟨t, b, z⟩], by omega, by go_num, by have := HC.out; simp; omega, ?_, R.out.1, R.out.2⟩
                have hv := HV.out
                rw [drop_at hkq, HY.out] at hv; rw [List.append_assoc]; exact hv
              case measure => simp [intOf]; omega
            · obtain rfl : q = m := by omega
              have hv := HV.out
              rw [List.drop_of_length_le (l := lb) (by rw [HLB.out]; exact Nat.le_refl _), List.append_nil] at hv
              have HCS := Lib.hid hv; clear hv
              have HM := Lib.hid (show ∀ x ∈ cs, x ∈ la ++ lb from fun x hx => List.mem_append.2 (maxL_mem _ la lb rfl x (by rw [← HCS.out]; exact hx)))
              have HB2 := Lib.hid (show isB (cs.map Co.val) = true by rw [HCS.out]; exact HB.out)
              obtain ⟨A1, c1, rfl⟩ := coins_shape HO.out
              go_wp2_with (fail)
              go_at_call 145
              refine (tNewCoinsSet2 A1 cs.length c1 cs _ rfl (by have := HC.out; omega) (own_at HO.out).1 (fun x hx => by have := HSZ.out x (HM.out x hx); unfold maxLen at this; omega) HB2.out).mono ?_
              rintro e w9 ⟨v, rfl, ho, hE⟩
              have HO9 := Lib.hid ho; have HE9 := Lib.hid hE; clear ho hE
              go_wp2
              go_ret
              exact ⟨v, rfl, HCS.out ▸ own_lower HO9.out HE.out.size, HE.out.trans' HE9.out⟩
end Go.Proofs.YtagfbefgcijegaaGreatDoor

namespace Go.Proofs.YtagfbefgcijegaaGreatDoor
open Go Go.RowKit

def StrC (l : List Co) : Prop := l.Pairwise fun x y => keyLt x.s y.s = true
theorem tot_co (s : ByteArray) (x : Co) (l : List Co) : totalP s ((x :: l).map Co.val) = (if x.s = s then x.z else 0) + totalP s (l.map Co.val) := totalP_cons s x.val (l.map Co.val)
theorem tot_above {l : List Co} {s : ByteArray} (h : ∀ y ∈ l, keyLt s y.s = true) : totalP s (l.map Co.val) = 0 := totalP_none fun x hx e => by
  obtain ⟨y, hy, rfl⟩ := List.mem_map.1 hx
  have h1 := h y hy
  rw [show y.s = s from e, keyLt_irrefl] at h1; cases h1
theorem tot_pos {l : List Co} (h : ∀ y ∈ l, 0 < y.z) (s : ByteArray) : 0 ≤ totalP s (l.map Co.val) := total_nonneg (fun x hx => by
  obtain ⟨y, hy, rfl⟩ := List.mem_map.1 hx
  exact h y hy) s
theorem keys_eq' {s t : ByteArray} (h : ¬ keyLt s t = true) (k : ¬ keyLt t s = true) : s = t := keyLt_tri (Bool.eq_false_iff.2 h) (Bool.eq_false_iff.2 k)
theorem strC_of {l : List Co} (h : isB (l.map Co.val) = true) : StrC l := List.pairwise_map.1 (isB_strict h)
theorem isB_parts {l : List Co} (h : isB (l.map Co.val) = true) : ∀ x ∈ l, denomB x.s = true ∧ 0 < x.z := fun x hx => by
  unfold isB at h; rw [decide_eq_true_iff] at h
  exact h.1 x.val (List.mem_map_of_mem hx)
theorem minL_len (n : Nat) : ∀ (a b : List Co), a.length + b.length = n → (minL a b).length ≤ n := by
  induction n using Nat.strongRecOn with
  | ind n ih =>
  intro a b hn
  rcases a with _ | ⟨x, xs⟩
  · rw [minL_nil']; simp
  · rcases b with _ | ⟨y, ys⟩
    · rw [minL_nil]; simp
    · rw [minL_cons]
      simp only [List.length_cons] at hn
      split
      · have := ih (n - 1) (by omega) xs (y :: ys) (by simp only [List.length_cons]; omega); omega
      · split
        · have := ih (n - 1) (by omega) (x :: xs) ys (by simp only [List.length_cons]; omega); omega
        · have := ih (n - 2) (by omega) xs ys (by omega); simp only [List.length_cons]; omega
theorem minL_strict (n : Nat) : ∀ (a b : List Co), a.length + b.length = n → StrC a → StrC b → StrC (minL a b) := by
  induction n using Nat.strongRecOn with
  | ind n ih =>
  intro a b hn ha hb
  rcases a with _ | ⟨x, xs⟩
  · rw [minL_nil']; exact List.Pairwise.nil
  · rcases b with _ | ⟨y, ys⟩
    · rw [minL_nil]; exact List.Pairwise.nil
    · rw [minL_cons]
      simp only [List.length_cons] at hn
      have ha' := List.pairwise_cons.1 ha
      have hb' := List.pairwise_cons.1 hb
      split
      · rename_i hlt
        have h1 := ih _ (by simp only [List.length_cons]; omega) xs (y :: ys) rfl ha'.2 hb
        exact h1
      · rename_i hlt
        split
        · rename_i hlt2
          have h1 := ih _ (by simp only [List.length_cons]; omega) (x :: xs) ys rfl ha hb'.2
          exact h1
        · rename_i hlt2
          have e := keys_eq' hlt hlt2
          have h1 := ih _ (by omega) xs ys rfl ha'.2 hb'.2
          refine List.pairwise_cons.2 ⟨fun z hz => ?_, h1⟩
          have hk : ∀ c : Co, (c = x ∨ c = y) → keyLt c.s z.s = true := fun c hc => by
            have e1 : c.s = x.s := by rcases hc with rfl | rfl <;> simp [e]
            rw [e1]
            rcases minL_mem _ xs ys rfl z hz with h | h
            · exact ha'.1 z h
            · rw [e]; exact hb'.1 z h
          split
          · exact hk _ (Or.inr rfl)
          · exact hk _ (Or.inl rfl)
theorem minL_tot (n : Nat) (s : ByteArray) : ∀ (a b : List Co), a.length + b.length = n → StrC a → StrC b → (∀ x ∈ a, 0 < x.z) → (∀ x ∈ b, 0 < x.z) →
    totalP s ((minL a b).map Co.val) = min (totalP s (a.map Co.val)) (totalP s (b.map Co.val)) := by
  induction n using Nat.strongRecOn with
  | ind n ih =>
  intro a b hn ha hb pa pb
  have qa := tot_pos pa s
  have qb := tot_pos pb s
  rcases a with _ | ⟨x, xs⟩
  · rw [minL_nil']; simp only [List.map_nil, totalP_nil] at qa ⊢; omega
  · rcases b with _ | ⟨y, ys⟩
    · rw [minL_nil]; simp only [List.map_nil, totalP_nil] at qb ⊢; omega
    · rw [minL_cons]
      simp only [List.length_cons] at hn
      have ha' := List.pairwise_cons.1 ha
      have hb' := List.pairwise_cons.1 hb
      have px := pa x (List.mem_cons_self ..); have py := pb y (List.mem_cons_self ..)
      have pa' : ∀ z ∈ xs, 0 < z.z := fun z hz => pa z (List.mem_cons_of_mem _ hz)
      have pb' : ∀ z ∈ ys, 0 < z.z := fun z hz => pb z (List.mem_cons_of_mem _ hz)
      split
      · rename_i hlt
        have h1 := ih _ (by simp only [List.length_cons]; omega) xs (y :: ys) rfl ha'.2 hb pa' pb
        rw [h1, tot_co s x xs]
        by_cases e : x.s = s
        · subst e
          have z1 : totalP x.s (xs.map Co.val) = 0 := tot_above ha'.1
          have z2 : totalP x.s ((y :: ys).map Co.val) = 0 := tot_above fun z hz => by
            rcases List.mem_cons.1 hz with rfl | hz
            · exact hlt
            · exact keyLt_trans hlt (hb'.1 z hz)
          rw [z1, z2, if_pos rfl]; omega
        · rw [if_neg e]; omega
      · rename_i hlt
        split
        · rename_i hlt2
          have h1 := ih _ (by simp only [List.length_cons]; omega) (x :: xs) ys rfl ha hb'.2 pa pb'
          rw [h1, tot_co s y ys]
          by_cases e : y.s = s
          · subst e
            have z1 : totalP y.s (ys.map Co.val) = 0 := tot_above hb'.1
            have z2 : totalP y.s ((x :: xs).map Co.val) = 0 := tot_above fun z hz => by
              rcases List.mem_cons.1 hz with rfl | hz
              · exact hlt2
              · exact keyLt_trans hlt2 (ha'.1 z hz)
            rw [z1, z2, if_pos rfl]; omega
          · rw [if_neg e]; omega
        · rename_i hlt2
          have e := keys_eq' hlt hlt2
          have h1 := ih _ (by omega) xs ys rfl ha'.2 hb'.2 pa' pb'
          rw [tot_co, h1, tot_co s x xs, tot_co s y ys, ← e]
          by_cases es : x.s = s
          · subst es
            have z1 : totalP x.s (xs.map Co.val) = 0 := tot_above ha'.1
            have z2 : totalP x.s (ys.map Co.val) = 0 := tot_above fun z hz => by rw [e]; exact hb'.1 z hz
            rw [z1, z2, if_pos rfl, if_pos rfl]
            split
            · rw [if_pos e.symm]; omega
            · rw [if_pos rfl]; omega
          · rw [if_neg es, if_neg es]
            split
            · rw [if_neg (fun k => es (e.trans k))]; omega
            · first | omega | (rw [if_neg es]; omega)
theorem isB_minL {a b : List Co} (ha : isB (a.map Co.val) = true) (hb : isB (b.map Co.val) = true) : isB ((minL a b).map Co.val) = true := by
  unfold isB; rw [decide_eq_true_iff]
  refine ⟨fun x hx => ?_, List.pairwise_map.2 (minL_strict _ a b rfl (strC_of ha) (strC_of hb))⟩
  obtain ⟨y, hy, rfl⟩ := List.mem_map.1 hx
  rcases minL_mem _ a b rfl y hy with h | h
  · exact isB_parts ha y h
  · exact isB_parts hb y h
theorem maxL_len (n : Nat) : ∀ (a b : List Co), a.length + b.length = n → (maxL a b).length ≤ n := by
  induction n using Nat.strongRecOn with
  | ind n ih =>
  intro a b hn
  rcases a with _ | ⟨x, xs⟩
  · rw [maxL_nil']; (try simp only [List.length_cons, List.length_nil] at hn ⊢); omega
  · rcases b with _ | ⟨y, ys⟩
    · rw [maxL_nil]; (try simp only [List.length_cons, List.length_nil] at hn ⊢); omega
    · rw [maxL_cons]
      simp only [List.length_cons] at hn
      split
      · have := ih (n - 1) (by omega) xs (y :: ys) (by simp only [List.length_cons]; omega); simp only [List.length_cons]; omega
      · split
        · have := ih (n - 1) (by omega) (x :: xs) ys (by simp only [List.length_cons]; omega); simp only [List.length_cons]; omega
        · have := ih (n - 2) (by omega) xs ys (by omega); simp only [List.length_cons]; omega
theorem maxL_strict (n : Nat) : ∀ (a b : List Co), a.length + b.length = n → StrC a → StrC b → StrC (maxL a b) := by
  induction n using Nat.strongRecOn with
  | ind n ih =>
  intro a b hn ha hb
  rcases a with _ | ⟨x, xs⟩
  · rw [maxL_nil']; exact hb
  · rcases b with _ | ⟨y, ys⟩
    · rw [maxL_nil]; exact ha
    · rw [maxL_cons]
      simp only [List.length_cons] at hn
      have ha' := List.pairwise_cons.1 ha
      have hb' := List.pairwise_cons.1 hb
      split
      · rename_i hlt
        have h1 := ih _ (by simp only [List.length_cons]; omega) xs (y :: ys) rfl ha'.2 hb
        refine List.pairwise_cons.2 ⟨fun z hz => ?_, h1⟩
        rcases maxL_mem _ xs (y :: ys) rfl z hz with h | h
        · exact ha'.1 z h
        · rcases List.mem_cons.1 h with rfl | h
          · exact hlt
          · exact keyLt_trans hlt (hb'.1 z h)
      · rename_i hlt
        split
        · rename_i hlt2
          have h1 := ih _ (by simp only [List.length_cons]; omega) (x :: xs) ys rfl ha hb'.2
          refine List.pairwise_cons.2 ⟨fun z hz => ?_, h1⟩
          rcases maxL_mem _ (x :: xs) ys rfl z hz with h | h
          · rcases List.mem_cons.1 h with rfl | h
            · exact hlt2
            · exact keyLt_trans hlt2 (ha'.1 z h)
          · exact hb'.1 z h
        · rename_i hlt2
          have e := keys_eq' hlt hlt2
          have h1 := ih _ (by omega) xs ys rfl ha'.2 hb'.2
          refine List.pairwise_cons.2 ⟨fun z hz => ?_, h1⟩
          have hk : ∀ c : Co, (c = x ∨ c = y) → keyLt c.s z.s = true := fun c hc => by
            have e1 : c.s = x.s := by rcases hc with rfl | rfl <;> simp [e]
            rw [e1]
            rcases maxL_mem _ xs ys rfl z hz with h | h
            · exact ha'.1 z h
            · rw [e]; exact hb'.1 z h
          split
          · exact hk _ (Or.inr rfl)
          · exact hk _ (Or.inl rfl)
theorem maxL_tot (n : Nat) (s : ByteArray) : ∀ (a b : List Co), a.length + b.length = n → StrC a → StrC b → (∀ x ∈ a, 0 < x.z) → (∀ x ∈ b, 0 < x.z) →
    totalP s ((maxL a b).map Co.val) = max (totalP s (a.map Co.val)) (totalP s (b.map Co.val)) := by
  induction n using Nat.strongRecOn with
  | ind n ih =>
  intro a b hn ha hb pa pb
  have qa := tot_pos pa s
  have qb := tot_pos pb s
  rcases a with _ | ⟨x, xs⟩
  · rw [maxL_nil']; simp only [List.map_nil, totalP_nil] at qa ⊢; omega
  · rcases b with _ | ⟨y, ys⟩
    · rw [maxL_nil]; simp only [List.map_nil, totalP_nil] at qb ⊢; omega
    · rw [maxL_cons]
      simp only [List.length_cons] at hn
      have ha' := List.pairwise_cons.1 ha
      have hb' := List.pairwise_cons.1 hb
      have px := pa x (List.mem_cons_self ..); have py := pb y (List.mem_cons_self ..)
      have pa' : ∀ z ∈ xs, 0 < z.z := fun z hz => pa z (List.mem_cons_of_mem _ hz)
      have pb' : ∀ z ∈ ys, 0 < z.z := fun z hz => pb z (List.mem_cons_of_mem _ hz)
      split
      · rename_i hlt
        have h1 := ih _ (by simp only [List.length_cons]; omega) xs (y :: ys) rfl ha'.2 hb pa' pb
        rw [tot_co, h1, tot_co s x xs]
        by_cases e : x.s = s
        · subst e
          have z1 : totalP x.s (xs.map Co.val) = 0 := tot_above ha'.1
          have z2 : totalP x.s ((y :: ys).map Co.val) = 0 := tot_above fun z hz => by
            rcases List.mem_cons.1 hz with rfl | hz
            · exact hlt
            · exact keyLt_trans hlt (hb'.1 z hz)
          rw [z1, z2, if_pos rfl]; omega
        · rw [if_neg e]; omega
      · rename_i hlt
        split
        · rename_i hlt2
          have h1 := ih _ (by simp only [List.length_cons]; omega) (x :: xs) ys rfl ha hb'.2 pa pb'
          rw [tot_co, h1, tot_co s y ys]
          by_cases e : y.s = s
          · subst e
            have z1 : totalP y.s (ys.map Co.val) = 0 := tot_above hb'.1
            have z2 : totalP y.s ((x :: xs).map Co.val) = 0 := tot_above fun z hz => by
              rcases List.mem_cons.1 hz with rfl | hz
              · exact hlt2
              · exact keyLt_trans hlt2 (ha'.1 z hz)
            rw [z1, z2, if_pos rfl]; omega
          · rw [if_neg e]; omega
        · rename_i hlt2
          have e := keys_eq' hlt hlt2
          have h1 := ih _ (by omega) xs ys rfl ha'.2 hb'.2 pa' pb'
          rw [tot_co, h1, tot_co s x xs, tot_co s y ys, ← e]
          by_cases es : x.s = s
          · subst es
            have z1 : totalP x.s (xs.map Co.val) = 0 := tot_above ha'.1
            have z2 : totalP x.s (ys.map Co.val) = 0 := tot_above fun z hz => by rw [e]; exact hb'.1 z hz
            rw [z1, z2, if_pos rfl, if_pos rfl]
            split
            · rw [if_pos e.symm]; omega
            · rw [if_pos rfl]; omega
          · rw [if_neg es, if_neg es]
            split
            · rw [if_neg (fun k => es (e.trans k))]; omega
            · first | omega | (rw [if_neg es]; omega)
theorem isB_maxL {a b : List Co} (ha : isB (a.map Co.val) = true) (hb : isB (b.map Co.val) = true) : isB ((maxL a b).map Co.val) = true := by
  unfold isB; rw [decide_eq_true_iff]
  refine ⟨fun x hx => ?_, List.pairwise_map.2 (maxL_strict _ a b rfl (strC_of ha) (strC_of hb))⟩
  obtain ⟨y, hy, rfl⟩ := List.mem_map.1 hx
  rcases maxL_mem _ a b rfl y hy with h | h
  · exact isB_parts ha y h
  · exact isB_parts hb y h

/-- A set that has, of each denomination, a number made of both amounts. -/
def RetSetOf (f : Int → Int → Int) (l m : List (ByteArray × Int)) (w : World) (e : Ending) (w' : World) : Prop :=
  ∃ v r, e = .returned (.tuple #[v, .bool true]) ∧ PlainOwn w' w.heap.size 37 v r ∧ Ext w w' ∧ isB r = true ∧ (∀ s, totalP s r = f (totalP s l) (totalP s m)) ∧ r.length ≤ l.length + m.length ∧ ∀ x ∈ r, x ∈ l ++ m

set_option maxRecDepth 100000 in
set_option maxHeartbeats 2000000 in
theorem iValid (A B : Option Addr) (n c m d : Nat) (l l' : List (ByteArray × Int)) (w : World) (hl : l.length = n) (hl' : l'.length = m) (hn : n ≤ 20) (hm : m ≤ 20) (hA : PlainAt w A l) (hB : PlainAt w B l')
    (hz : ∀ x ∈ l ++ l', -maxI ≤ x.2 ∧ x.2 ≤ maxI) (hsz : ∀ x ∈ l ++ l', x.1.size ≤ maxLen) (hb : isB l = true) (hb' : isB l' = true) :
    Calls Tryz.prog 108 #[.slice A n c, .slice B m d] w (RetE (.bool true) w) := by
  have HCA := Lib.hid (iCoins A n c l w hl (by omega) hA (fun x hx => hz x (List.mem_append_left _ hx)))
  have HCB := Lib.hid (fun (W : World) (e : Ext w W) => iCoins B m d l' W hl' (by omega) (hB.ext e) (fun x hx => hz x (List.mem_append_right _ hx)))
  have HL := Lib.hid hl; have HL' := Lib.hid hl'; have HN := Lib.hid (And.intro hn hm); have HSZ := Lib.hid hsz; have HB := Lib.hid (And.intro hb hb')
  clear hl hl' hn hm hA hB hz hsz hb hb'
  go_enter Tryz.func108, Tryz.ntmps108
  go_wp2_with (fail)
  go_at_call 72
  refine HCA.out.mono ?_
  rintro e w1 ⟨v, cs, rfl, hv, hown, hE⟩
  obtain ⟨A1, c1, rfl, hc1, hc2⟩ := own_cap2 hown.1
  have HO := Lib.hid (own_at hown).1; have HV := Lib.hid hv; have HE1 := Lib.hid hE; have HNc := Lib.hid (show cs.length = n by rw [← HL.out, ← hv]; simp); have HC := Lib.hid (And.intro hc1 hc2)
  clear hown hv hE hc1 hc2
  go_wp2_with (fail)
  go_at_call 103
  refine (tValidate A1 cs.length c1 cs _ rfl (by have := HNc.out; have := HN.out; omega) HC.out.1 HC.out.2 HO.out (fun x hx => Nat.le_trans (HSZ.out _ (List.mem_append_left _ (mem_co HV.out hx))) (by decide))).mono ?_
  rintro e w2 ⟨o, ho, hr⟩
  rw [HV.out] at ho
  obtain rfl := errIs_unique (isB_err.2 HB.out.1) ho
  obtain ⟨rfl, hE⟩ := hr
  have HE2 := Lib.hid (HE1.out.trans' hE); clear hE ho
  go_wp2_with (fail)
  go_at_call 72
  refine (HCB.out _ HE2.out).mono ?_
  rintro e w3 ⟨v, ds, rfl, hv, hown, hE⟩
  obtain ⟨A2, c2, rfl, hc1, hc2⟩ := own_cap2 hown.1
  have HO2 := Lib.hid (own_at hown).1; have HV2 := Lib.hid hv; have HE3 := Lib.hid (HE2.out.trans' hE); have HNd := Lib.hid (show ds.length = m by rw [← HL'.out, ← hv]; simp); have HC2 := Lib.hid (And.intro hc1 hc2)
  clear hown hv hE hc1 hc2
  go_wp2_with (fail)
  go_at_call 103
  refine (tValidate A2 ds.length c2 ds _ rfl (by have := HNd.out; have := HN.out; omega) HC2.out.1 HC2.out.2 HO2.out (fun x hx => Nat.le_trans (HSZ.out _ (List.mem_append_right _ (mem_co HV2.out hx))) (by decide))).mono ?_
  rintro e w4 ⟨o, ho, hr⟩
  rw [HV2.out] at ho
  obtain rfl := errIs_unique (isB_err.2 HB.out.2) ho
  obtain ⟨rfl, hE⟩ := hr
  have HE4 := Lib.hid (HE3.out.trans' hE); clear hE ho
  go_wp2
  go_ret
  exact ⟨rfl, HE4.out⟩

set_option maxRecDepth 100000 in
set_option maxHeartbeats 2000000 in
theorem iMinOf (A B : Option Addr) (n c m d : Nat) (l l' : List (ByteArray × Int)) (w : World) (hl : l.length = n) (hl' : l'.length = m) (hn : n ≤ 20) (hm : m ≤ 20) (hA : PlainAt w A l) (hB : PlainAt w B l')
    (hz : ∀ x ∈ l ++ l', x.2.natAbs ≤ 1125899906842624) (hsz : ∀ x ∈ l ++ l', x.1.size ≤ maxLen) (hb : isB l = true) (hb' : isB l' = true) :
    Calls Tryz.prog 56 #[.slice A n c, .slice B m d] w (RetSetOf (fun x y => min x y) l l' w) := by
  have hz1 : ∀ x ∈ l ++ l', -maxI ≤ x.2 ∧ x.2 ≤ maxI := fun x hx => by have := hz x hx; unfold maxI; omega
  have H1 := Lib.hid (iValid A B n c m d l l' w hl hl' hn hm hA hB hz1 hsz hb hb')
  have HCA := Lib.hid (fun (W : World) (e : Ext w W) => iCoins A n c l W hl (by omega) (hA.ext e) (fun x hx => hz1 x (List.mem_append_left _ hx)))
  have HCB := Lib.hid (fun (W : World) (e : Ext w W) => iCoins B m d l' W hl' (by omega) (hB.ext e) (fun x hx => hz1 x (List.mem_append_right _ hx)))
  have HL := Lib.hid hl; have HL' := Lib.hid hl'; have HN := Lib.hid (And.intro hn hm); have HSZ := Lib.hid hsz; have HZ := Lib.hid hz; have HB := Lib.hid (And.intro hb hb')
  clear hl hl' hn hm hA hB hz hz1 hsz hb hb'
  go_enter Tryz.func56, Tryz.ntmps56
  go_wp2_with (fail)
  go_at_call 108
  refine H1.out.mono ?_
  rintro e w0 ⟨rfl, hE⟩
  have HE0 := Lib.hid hE; clear hE
  go_wp2_with (fail)
  go_at_call 72
  refine (HCA.out _ HE0.out).mono ?_
  rintro e w1 ⟨v, cs, rfl, hv, hown, hE⟩
  obtain ⟨A1, c1, rfl⟩ := coins_shape hown
  have HO := Lib.hid (own_at hown).1; have HV := Lib.hid hv; have HE1 := Lib.hid (HE0.out.trans' hE); have HNc := Lib.hid (show cs.length = n by rw [← HL.out, ← hv]; simp)
  clear hown hv hE
  go_wp2_with (fail)
  go_at_call 72
  refine (HCB.out _ HE1.out).mono ?_
  rintro e w2 ⟨v, ds, rfl, hv, hown, hE⟩
  obtain ⟨A2, c2, rfl⟩ := coins_shape hown
  have HO1 := Lib.hid (HO.out.ext hE); have HO2 := Lib.hid (own_at hown).1; have HV2 := Lib.hid hv; have HE2 := Lib.hid (HE1.out.trans' hE); have HNd := Lib.hid (show ds.length = m by rw [← HL'.out, ← hv]; simp)
  clear hown hv hE
  have hmem : ∀ x ∈ cs ++ ds, x.val ∈ l ++ l' := fun x hx => by
    rcases List.mem_append.1 hx with h | h
    · exact List.mem_append_left _ (mem_co HV.out h)
    · exact List.mem_append_right _ (mem_co HV2.out h)
  have HMM := Lib.hid hmem; clear hmem
  have HBC := Lib.hid (show isB (cs.map Co.val) = true ∧ isB (ds.map Co.val) = true by rw [HV.out, HV2.out]; exact HB.out)
  have HPOS := Lib.hid (show ∀ x ∈ cs ++ ds, 0 < x.z from fun x hx => (List.mem_append.1 hx).elim (fun h => (isB_parts HBC.out.1 x h).2) (fun h => (isB_parts HBC.out.2 x h).2))
  go_wp2_with (fail)
  go_at_call 109
  refine (tMin A1 A2 cs.length c1 ds.length c2 cs ds _ rfl rfl (by have := HNc.out; have := HN.out; omega) (by have := HNd.out; have := HN.out; omega) HO1.out HO2.out (fun x hx => HSZ.out _ (HMM.out x hx)) (fun x hx => by have := HZ.out _ (HMM.out x hx); rw [show x.val.2 = x.z from rfl] at this; unfold B64; omega) HPOS.out (isB_minL HBC.out.1 HBC.out.2)).mono ?_
  rintro e w3 ⟨v, rfl, hown, hE⟩
  obtain ⟨L, hL⟩ : ∃ L, L = minL cs ds := ⟨_, rfl⟩
  rw [← hL] at hown
  have HLL := Lib.hid hL
  obtain ⟨A3, c3, rfl⟩ := coins_shape hown
  have HO3 := Lib.hid (own_at hown).1; have HE3 := Lib.hid (HE2.out.trans' hE)
  have HLN := Lib.hid (show L.length ≤ n + m by rw [hL]; have := minL_len _ cs ds rfl; have := HNc.out; have := HNd.out; omega)
  have HLM := Lib.hid (show ∀ x ∈ L, x ∈ cs ++ ds from fun x hx => List.mem_append.2 (minL_mem _ cs ds rfl x (hL ▸ hx)))
  clear hown hE hL
  go_wp2_with (fail)
  go_at_call 74
  refine (iBackCoins A3 L.length c3 L _ rfl (by have := HLN.out; have := HN.out; omega) HO3.out (fun x hx => by have := HZ.out _ (HMM.out x (HLM.out x hx)); rw [show x.val.2 = x.z from rfl] at this; unfold maxI; omega)).mono ?_
  rintro e w4 ⟨v, rfl, ho, hE⟩
  have HO4 := Lib.hid ho; have HE4 := Lib.hid (HE3.out.trans' hE); clear ho hE
  go_wp2
  go_ret2
  refine ⟨v, L.map Co.val, rfl, row_low HO4.out HE3.out.size, HE4.out, by rw [HLL.out]; exact isB_minL HBC.out.1 HBC.out.2, fun s => ?_, by rw [List.length_map, HL.out, HL'.out]; exact HLN.out, fun x hx => ?_⟩
  · rw [HLL.out, minL_tot _ s cs ds rfl (strC_of HBC.out.1) (strC_of HBC.out.2) (fun x hx => HPOS.out x (List.mem_append_left _ hx)) (fun x hx => HPOS.out x (List.mem_append_right _ hx)), HV.out, HV2.out]
  · obtain ⟨y, hy, rfl⟩ := List.mem_map.1 hx
    exact HMM.out y (HLM.out y hy)

set_option maxRecDepth 100000 in
set_option maxHeartbeats 2000000 in
theorem iMaxOf (A B : Option Addr) (n c m d : Nat) (l l' : List (ByteArray × Int)) (w : World) (hl : l.length = n) (hl' : l'.length = m) (hn : n ≤ 20) (hm : m ≤ 20) (hA : PlainAt w A l) (hB : PlainAt w B l')
    (hz : ∀ x ∈ l ++ l', x.2.natAbs ≤ 1125899906842624) (hsz : ∀ x ∈ l ++ l', x.1.size ≤ maxLen) (hb : isB l = true) (hb' : isB l' = true) :
    Calls Tryz.prog 57 #[.slice A n c, .slice B m d] w (RetSetOf (fun x y => max x y) l l' w) := by
  have hz1 : ∀ x ∈ l ++ l', -maxI ≤ x.2 ∧ x.2 ≤ maxI := fun x hx => by have := hz x hx; unfold maxI; omega
  have H1 := Lib.hid (iValid A B n c m d l l' w hl hl' hn hm hA hB hz1 hsz hb hb')
  have HCA := Lib.hid (fun (W : World) (e : Ext w W) => iCoins A n c l W hl (by omega) (hA.ext e) (fun x hx => hz1 x (List.mem_append_left _ hx)))
  have HCB := Lib.hid (fun (W : World) (e : Ext w W) => iCoins B m d l' W hl' (by omega) (hB.ext e) (fun x hx => hz1 x (List.mem_append_right _ hx)))
  have HL := Lib.hid hl; have HL' := Lib.hid hl'; have HN := Lib.hid (And.intro hn hm); have HSZ := Lib.hid hsz; have HZ := Lib.hid hz; have HB := Lib.hid (And.intro hb hb')
  clear hl hl' hn hm hA hB hz hz1 hsz hb hb'
  go_enter Tryz.func57, Tryz.ntmps57
  go_wp2_with (fail)
  go_at_call 108
  refine H1.out.mono ?_
  rintro e w0 ⟨rfl, hE⟩
  have HE0 := Lib.hid hE; clear hE
  go_wp2_with (fail)
  go_at_call 72
  refine (HCA.out _ HE0.out).mono ?_
  rintro e w1 ⟨v, cs, rfl, hv, hown, hE⟩
  obtain ⟨A1, c1, rfl⟩ := coins_shape hown
  have HO := Lib.hid (own_at hown).1; have HV := Lib.hid hv; have HE1 := Lib.hid (HE0.out.trans' hE); have HNc := Lib.hid (show cs.length = n by rw [← HL.out, ← hv]; simp)
  clear hown hv hE
  go_wp2_with (fail)
  go_at_call 72
  refine (HCB.out _ HE1.out).mono ?_
  rintro e w2 ⟨v, ds, rfl, hv, hown, hE⟩
  obtain ⟨A2, c2, rfl⟩ := coins_shape hown
  have HO1 := Lib.hid (HO.out.ext hE); have HO2 := Lib.hid (own_at hown).1; have HV2 := Lib.hid hv; have HE2 := Lib.hid (HE1.out.trans' hE); have HNd := Lib.hid (show ds.length = m by rw [← HL'.out, ← hv]; simp)
  clear hown hv hE
  have hmem : ∀ x ∈ cs ++ ds, x.val ∈ l ++ l' := fun x hx => by
    rcases List.mem_append.1 hx with h | h
    · exact List.mem_append_left _ (mem_co HV.out h)
    · exact List.mem_append_right _ (mem_co HV2.out h)
  have HMM := Lib.hid hmem; clear hmem
  have HBC := Lib.hid (show isB (cs.map Co.val) = true ∧ isB (ds.map Co.val) = true by rw [HV.out, HV2.out]; exact HB.out)
  have HPOS := Lib.hid (show ∀ x ∈ cs ++ ds, 0 < x.z from fun x hx => (List.mem_append.1 hx).elim (fun h => (isB_parts HBC.out.1 x h).2) (fun h => (isB_parts HBC.out.2 x h).2))
  go_wp2_with (fail)
  go_at_call 110
  refine (tMax A1 A2 cs.length c1 ds.length c2 cs ds _ rfl rfl (by have := HNc.out; have := HN.out; omega) (by have := HNd.out; have := HN.out; omega) HO1.out HO2.out (fun x hx => HSZ.out _ (HMM.out x hx)) (fun x hx => by have := HZ.out _ (HMM.out x hx); rw [show x.val.2 = x.z from rfl] at this; unfold B64; omega) HPOS.out (isB_maxL HBC.out.1 HBC.out.2)).mono ?_
  rintro e w3 ⟨v, rfl, hown, hE⟩
  obtain ⟨L, hL⟩ : ∃ L, L = maxL cs ds := ⟨_, rfl⟩
  rw [← hL] at hown
  have HLL := Lib.hid hL
  obtain ⟨A3, c3, rfl⟩ := coins_shape hown
  have HO3 := Lib.hid (own_at hown).1; have HE3 := Lib.hid (HE2.out.trans' hE)
  have HLN := Lib.hid (show L.length ≤ n + m by rw [hL]; have := maxL_len _ cs ds rfl; have := HNc.out; have := HNd.out; omega)
  have HLM := Lib.hid (show ∀ x ∈ L, x ∈ cs ++ ds from fun x hx => List.mem_append.2 (maxL_mem _ cs ds rfl x (hL ▸ hx)))
  clear hown hE hL
  go_wp2_with (fail)
  go_at_call 74
  refine (iBackCoins A3 L.length c3 L _ rfl (by have := HLN.out; have := HN.out; omega) HO3.out (fun x hx => by have := HZ.out _ (HMM.out x (HLM.out x hx)); rw [show x.val.2 = x.z from rfl] at this; unfold maxI; omega)).mono ?_
  rintro e w4 ⟨v, rfl, ho, hE⟩
  have HO4 := Lib.hid ho; have HE4 := Lib.hid (HE3.out.trans' hE); clear ho hE
  go_wp2
  go_ret2
  refine ⟨v, L.map Co.val, rfl, row_low HO4.out HE3.out.size, HE4.out, by rw [HLL.out]; exact isB_maxL HBC.out.1 HBC.out.2, fun s => ?_, by rw [List.length_map, HL.out, HL'.out]; exact HLN.out, fun x hx => ?_⟩
  · rw [HLL.out, maxL_tot _ s cs ds rfl (strC_of HBC.out.1) (strC_of HBC.out.2) (fun x hx => HPOS.out x (List.mem_append_left _ hx)) (fun x hx => HPOS.out x (List.mem_append_right _ hx)), HV.out, HV2.out]
  · obtain ⟨y, hy, rfl⟩ := List.mem_map.1 hx
    exact HMM.out y (HLM.out y hy)
end Go.Proofs.YtagfbefgcijegaaGreatDoor
