/-
  The contract of bits.Len, off the shelf.
  Contracts of the coins' sort.Interface: Len, Less, Swap of neighbours.
  Contracts of sort.Sort and its parts over coins: up to 12 coins; and coins in order.
  Contracts of pdqsort's parts at coins in order; pdqsort; sort.Sort; Coins.Sort.
  The contract of zzKeys at the maps of coins: the keys, in order.
  Contracts of the questions whether lists are sorted.
  Coins grouped by their denominations in a map of slices: what a look-up, an append and a store do.
  The contract of Coins.safeAdd.
  Contracts of Coins.Add and impl.AddOf, in plain lists.
  Plain laws of the reference's SumTotal: the sums by denominations of coins in order.
  The merging of two lists of decimal coins comes to the sums by names: plain lemmas.
-/
import Derived.Test.YthnghknmgbimbaaGreatDoorChecked
import Derived.Test.YthnghknmgbimbaaGreatDoorGA
import Derived.Shelf.Small.Bits
import Derived.Tactics
import Derived.Test.YthnghknmgbimbaaGreatDoorGC
import Derived.BigQuiet
import Derived.BigRegion
import Derived.Handy
import Derived.Maps.RangeWalk
import Derived.Test.YthnghknmgbimbaaGreatDoorGB
import Derived.Deep.AppendLies
import Derived.Deep.RegionLaw
import Derived.Deep.RegionHeld3
import Derived.Test.YthnghknmgbimbaaGreatDoorGQ
namespace Go.Proofs.YthnghknmgbimbaaGreatDoor
open Go Go.RowKit Go.Shelf

def renL : Ren where
  f := fun n => if n = 125 then 163 else if n = 128 then 196 else 197
  t := fun n => if n = 3 then 3 else if n = 4 then 4 else if n = 5 then 5 else if n = 9 then 9 else if n = 46 then 171 else if n = 51 then 198 else 39
  g := fun n => n
theorem laysL : Lays.n125 Tryz.prog renL where
  mixed := by kernel_rfl
  f125 := by kernel_rfl
  f128 := by kernel_rfl
  f129 := by kernel_rfl
  t3 := by kernel_rfl
  a3 := by intro w; kernel_rfl
  z3 := by intro w; kernel_rfl
  v3 := by intro w; kernel_rfl
  t4 := by kernel_rfl
  a4 := by intro w; kernel_rfl
  z4 := by intro w; kernel_rfl
  v4 := by intro w; kernel_rfl
  t5 := by kernel_rfl
  a5 := by intro w; kernel_rfl
  z5 := by intro w; kernel_rfl
  v5 := by intro w; kernel_rfl
  t9 := by kernel_rfl
  a9 := by intro w; kernel_rfl
  z9 := by intro w; kernel_rfl
  v9 := by intro w; kernel_rfl
  t46 := by kernel_rfl
  a46 := by intro w; kernel_rfl
  z46 := by intro w; kernel_rfl
  v46 := by intro w; kernel_rfl
  t51 := by kernel_rfl
  a51 := by intro w; kernel_rfl
  z51 := by intro w; kernel_rfl
  v51 := by intro w; kernel_rfl
  t53 := by kernel_rfl
  a53 := by intro w; kernel_rfl
  z53 := by intro w; kernel_rfl
  v53 := by intro w; kernel_rfl

theorem bLen (x : Int) (w : World) (h0 : 0 ≤ x) (h1 : x ≤ 18446744073709551615) : Calls Tryz.prog 163 #[.int .u64 x] w fun e w' => e = .returned (.int .i64 (Lib.bitLen x.toNat)) ∧ w' = w :=
  Any.bits_Len laysL x w h0 h1
end Go.Proofs.YthnghknmgbimbaaGreatDoor

namespace Go.Proofs.YthnghknmgbimbaaGreatDoor
open Go Go.RowKit

/-- The coins of a block of the call's own. -/
def Row (w : World) (g : Nat) (L : List Co) (rest : List Value) : Prop := Blk w g 155 (flat2 (L.map Co.pair) ++ rest)
theorem Row.drewN {w : World} {g : Nat} {L : List Co} {rest : List Value} (h : Row w g L rest) (n : Nat) : Row (w.drewN n) g L rest := h
theorem Row.drew {w : World} {g : Nat} {L : List Co} {rest : List Value} (h : Row w g L rest) : Row w.drew g L rest := h
theorem Only.drew' {g : Nat} {a w : World} (h : Only g a w) : Only g a w.drew := ⟨h.os, h.tape, h.output, h.size, h.block⟩
theorem Row.cell {w : World} {g : Nat} {L : List Co} {rest : List Value} (h : Row w g L rest) (j : Nat) (hj : j < L.length) :
    w.cell? ⟨g, j * 2, none⟩ = some (.string (Co.s L[j])) ∧ w.cell? ⟨g, j * 2 + 1, none⟩ = some (.pointer (some ⟨Co.b L[j], 0, none⟩)) := by
  have hl : (flat2 (L.map Co.pair)).length = L.length * 2 := by rw [flat2_length]; simp
  have hg := flat2_get (L.map Co.pair) j (by simpa using hj)
  have h1 : j * 2 < (flat2 (L.map Co.pair)).length := by omega
  have h2 : j * 2 + 1 < (flat2 (L.map Co.pair)).length := by omega
  constructor
  · rw [Blk.cell h, List.getElem?_append_left h1, hg.1]; simp [Co.pair]
  · rw [Blk.cell h, List.getElem?_append_left h2, hg.2]; simp [Co.pair]
theorem flat2_cons (a : Value × Value) (l : List (Value × Value)) : flat2 (a :: l) = a.1 :: a.2 :: flat2 l := by simp [flat2]
theorem swp_succ {α : Type} (a : α) (t : List α) (j : Nat) : swp (a :: t) (j + 1) = a :: swp t j := by cases t <;> simp [swp]
theorem swp_flat : ∀ (l : List (Value × Value)) (j : Nat) (h : j + 1 < l.length),
    flat2 (swp l j) = ((((flat2 l).set ((j + 1) * 2) l[j].1).set ((j + 1) * 2 + 1) l[j].2).set (j * 2) l[j + 1].1).set (j * 2 + 1) l[j + 1].2
  | a :: b :: t, 0, _ => by simp [swp, flat2_cons]
  | a :: t, j + 1, h => by
    have ih := swp_flat t j (by simpa using h)
    rw [swp_succ, flat2_cons, flat2_cons, ih]
    simp only [List.getElem_cons_succ]
    rw [show (j + 1 + 1) * 2 = (j + 1) * 2 + 1 + 1 by omega, show (j + 1) * 2 = j * 2 + 1 + 1 by omega]
    simp
  | [a], 0, h => by simp at h
  | [], _, h => by simp at h
theorem Row.swp {w : World} {g : Nat} {L : List Co} {rest : List Value} (h : Row w g L rest) (j : Nat) (hj : j + 1 < L.length) :
    Row ((((w.setCell ⟨g, (j + 1) * 2, none⟩ (.string (Co.s L[j]))).setCell ⟨g, (j + 1) * 2 + 1, none⟩ (.pointer (some ⟨Co.b L[j], 0, none⟩))).setCell ⟨g, j * 2, none⟩ (.string (Co.s L[j + 1]))).setCell ⟨g, j * 2 + 1, none⟩ (.pointer (some ⟨Co.b L[j + 1], 0, none⟩))) g (swp L j) rest := by
  have := (((Blk.set_ h ((j + 1) * 2) (.string (Co.s L[j]))).set_ ((j + 1) * 2 + 1) (.pointer (some ⟨Co.b L[j], 0, none⟩))).set_ (j * 2) (.string (Co.s L[j + 1]))).set_ (j * 2 + 1) (.pointer (some ⟨Co.b L[j + 1], 0, none⟩))
  unfold Row
  have hl : (flat2 (L.map Co.pair)).length = L.length * 2 := by rw [flat2_length]; simp
  rw [swp_map, swp_flat _ _ (by simpa using hj)]
  have e : ∀ (xs ys : List Value) (i : Nat) (u : Value), i < xs.length → (xs ++ ys).set i u = xs.set i u ++ ys := fun xs ys i u hi => by rw [List.set_append, if_pos hi]
  rw [e _ _ _ _ (by omega), e _ _ _ _ (by simp; omega), e _ _ _ _ (by simp; omega), e _ _ _ _ (by simp; omega)] at this
  simpa [Co.pair] using this

theorem cLen (a : Option Addr) (n c : Nat) (w : World) : Calls Tryz.prog 336 #[.slice a n c] w fun e w' => e = .returned (.int .i64 n) ∧ w' = w := by
  go_enter Tryz.func336, Tryz.ntmps336
  go_wp2
  go_ret
  exact ⟨rfl, rfl⟩

set_option maxRecDepth 100000 in
theorem cLess (g n c : Nat) (L : List Co) (rest : List Value) (w : World) (h : Row w g L rest) (hl : L.length = n) (i j : Nat) (hi : i < n) (hj : j < n) :
    Calls Tryz.prog 337 #[.slice (some ⟨g, 0, none⟩) n c, .int .i64 i, .int .i64 j] w (RetQ (.bool (keyLt (Co.s (L[i]'(by omega))) (Co.s (L[j]'(by omega))))) w) := by
  obtain ⟨s, hs⟩ : ∃ s, s = Co.s (L[i]'(by omega)) := ⟨_, rfl⟩
  obtain ⟨t, ht⟩ : ∃ t, t = Co.s (L[j]'(by omega)) := ⟨_, rfl⟩
  have c0 : w.cell? ⟨g, i * 2, none⟩ = some (.string s) := by rw [hs]; exact (h.cell i (by omega)).1
  have c1 : w.cell? ⟨g, j * 2, none⟩ = some (.string t) := by rw [ht]; exact (h.cell j (by omega)).1
  rw [← hs, ← ht]
  have b0 : (0 : Int) ≤ (i : Int) := by omega
  have b1 : (i : Int) < (n : Int) := by omega
  have b2 : (0 : Int) ≤ (j : Int) := by omega
  have b3 : (j : Int) < (n : Int) := by omega
  clear h hs ht hl hi hj
  have F := Lib.hid (show keyLt s t = Op.bytesLess s.toList t.toList from rfl)
  go_enter Tryz.func337, Tryz.ntmps337
  go_wp2
  go_quiet (fail)
  go_wp2
  go_ret
  rw [F.out]; exact ⟨rfl, by first | exact dr1 _ _ | exact dr2 _ _ _⟩

set_option maxRecDepth 100000 in
set_option maxHeartbeats 1000000 in
theorem cSwap (g n c : Nat) (L : List Co) (rest : List Value) (w : World) (h : Row w g L rest) (hl : L.length = n) (j : Nat) (hj : j + 1 < n) :
    Calls Tryz.prog 339 #[.slice (some ⟨g, 0, none⟩) n c, .int .i64 ((j : Int) + 1), .int .i64 j] w fun e w' => e = .returned (.tuple #[]) ∧ Row w' g (swp L j) rest ∧ Only g w w' := by
  obtain ⟨s, hs⟩ : ∃ s, s = Co.s (L[j]'(by omega)) := ⟨_, rfl⟩
  obtain ⟨t, ht⟩ : ∃ t, t = Co.s (L[j + 1]'(by omega)) := ⟨_, rfl⟩
  obtain ⟨x, hx⟩ : ∃ x, x = Co.b (L[j]'(by omega)) := ⟨_, rfl⟩
  obtain ⟨y, hy⟩ : ∃ y, y = Co.b (L[j + 1]'(by omega)) := ⟨_, rfl⟩
  have c0 : w.cell? ⟨g, j * 2, none⟩ = some (.string s) := by rw [hs]; exact (h.cell j (by omega)).1
  have c1 : w.cell? ⟨g, (j + 1) * 2, none⟩ = some (.string t) := by rw [ht]; exact (h.cell (j + 1) (by omega)).1
  have d0 : w.cell? ⟨g, j * 2 + 1, none⟩ = some (.pointer (some ⟨x, 0, none⟩)) := by rw [hx]; exact (h.cell j (by omega)).2
  have d1 : w.cell? ⟨g, (j + 1) * 2 + 1, none⟩ = some (.pointer (some ⟨y, 0, none⟩)) := by rw [hy]; exact (h.cell (j + 1) (by omega)).2
  have f0 : w.frozen? ⟨g, j * 2, none⟩ = false := Blk.frozen h _
  have f1 : w.frozen? ⟨g, (j + 1) * 2, none⟩ = false := Blk.frozen h _
  have f2 : w.frozen? ⟨g, j * 2 + 1, none⟩ = false := Blk.frozen h _
  have f3 : w.frozen? ⟨g, (j + 1) * 2 + 1, none⟩ = false := Blk.frozen h _
  have b0 : (0 : Int) ≤ (j : Int) := by omega
  have b1 : (j : Int) < (n : Int) := by omega
  have b2 : (j : Int) + 1 < (n : Int) := by omega
  have HR := Lib.hid h; have HS := Lib.hid hs; have HT := Lib.hid ht; have HX := Lib.hid hx; have HY := Lib.hid hy; have HL := Lib.hid hl
  clear h hs ht hx hy
  go_enter Tryz.func339, Tryz.ntmps339
  go_wp2
  go_region
  all_goals go_wp2
  all_goals go_end0
  all_goals exact ⟨rfl, by rw [HS.out, HT.out, HX.out, HY.out]; exact (HR.out.swp j (by omega)).drew, ((((Only.refl g w).set_ _ _).set_ _ _).set_ _ _ |>.set_ _ _).drew'⟩
end Go.Proofs.YthnghknmgbimbaaGreatDoor

namespace Go.Proofs.YthnghknmgbimbaaGreatDoor
open Go Go.RowKit

/-- Coins as a sort.Interface. -/
def sortV (g n c : Nat) : Value := .iface 119 (.slice (some ⟨g, 0, none⟩) n c)

set_option maxRecDepth 100000 in
set_option maxHeartbeats 1000000 in
theorem insSort (g n c : Nat) (L0 : List Co) (rest : List Value) (w : World) (h : Row w g L0 rest) (hl : L0.length = n) (hn : n ≤ 1000000) :
    Calls Tryz.prog 198 #[.iface 119 (.slice (some ⟨g, 0, none⟩) n c), .int .i64 0, .int .i64 n] w
      fun e w' => e = .returned (.tuple #[]) ∧ ∃ L, Row w' g L rest ∧ Only g w w' ∧ L.Perm L0 ∧ L.Pairwise fun a b => le (Co.s a) (Co.s b) := by
  have HR := Lib.hid h; have HL := Lib.hid hl
  clear h hl
  go_enter Tryz.func198, Tryz.ntmps198
  go_wp2
  go_loopw [6] (fun i wz => ∃ (k : Nat) (L : List Co), 1 ≤ k ∧ (k ≤ n ∨ k = 1) ∧ i = .int .i64 k ∧ Row wz g L rest ∧ Only g w wz ∧ InsO Co.s L0 L k) (fun i _ => n + 1 - (intOf i).toNat)
  case atStart => exact ⟨1, L0, Nat.le_refl _, Or.inr rfl, rfl, HR.out, Only.refl _ _, insO_start _⟩
  case round =>
    obtain ⟨k, L, hk1, hk, rfl, hb, ho, hins⟩ := hrel
    have HBz := Lib.hid hb; have HOz := Lib.hid ho; have HIz := Lib.hid hins
    clear hb ho hins
    have HLn := Lib.hid (show L.length = n by rw [HIz.out.1.length_eq, HL.out])
    by_cases hlt : k < n
    · go_wp2
      go_loopw [7] (fun i wz' => ∃ (j : Nat) (L' : List Co), i = .int .i64 j ∧ Row wz' g L' rest ∧ Only g w wz' ∧ InsI Co.s L0 L' k j) (fun i _ => (intOf i).toNat)
      case atStart => exact ⟨k, L, rfl, HBz.out, HOz.out, insO_in HIz.out (by rw [HLn.out]; exact hlt)⟩
      case round =>
        obtain ⟨j, L', rfl, hb, ho, hins⟩ := hrel
        have HBy := Lib.hid hb; have HOy := Lib.hid ho; have HIy := Lib.hid hins
        clear hb ho hins HBz HOz HIz HLn
        have HLy := Lib.hid (show L'.length = n by rw [HIy.out.1.length_eq, HL.out])
        rcases j with _ | j
        · go_wp2
          go_roundw
          case rel => exact ⟨k + 1, L', by omega, by omega, by go_num, HBy.out, HOy.out, insI_out0 HIy.out⟩
          case measure => simp [intOf]; omega
        · have hjl : j + 1 < L'.length := by have := HIy.out.2.1; have := HIy.out.2.2.1; omega
          have hjm : j + 1 < n := by rw [← HLy.out]; exact hjl
          obtain ⟨r, hr⟩ : ∃ r, r = keyLt (Co.s L'[j + 1]) (Co.s L'[j]) := ⟨_, rfl⟩
          have HC := Lib.hid (show Calls Tryz.prog 337 #[.slice (some ⟨g, 0, none⟩) n c, .int .i64 ((j : Int) + 1), .int .i64 j] wr (RetQ (.bool r) wr) by
            rw [hr]; exact cLess g n c L' rest wr HBy.out HLy.out (j + 1) j hjm (by omega))
          have HS := Lib.hid hr; clear hr
          cases r
          · go_wp2_with (first | (go_at_call 337; refine HC.out.mono ?_; rintro e w' ⟨rfl, q, rfl⟩))
            go_roundw
            case rel => exact ⟨k + 1, L', by omega, by omega, by go_num, HBy.out.drewN _, HOy.out.drewN _, insI_out HIy.out hjl HS.out.symm⟩
            case measure => simp [intOf]; omega
          · go_wp2_with (first | (go_at_call 337; refine HC.out.mono ?_; rintro e w' ⟨rfl, q, rfl⟩) | (go_at_call 339; refine (cSwap g n c L' rest _ (HBy.out.drewN _) HLy.out j hjm).mono ?_; rintro e w' ⟨rfl, hrow, honly⟩; have R := Lib.hid (And.intro hrow honly); clear hrow honly))
            go_roundw
            case rel => exact ⟨j, swp L' j, rfl, R.out.1, (HOy.out.drewN _).trans' R.out.2, insI_swp HIy.out hjl HS.out.symm⟩
            case measure => simp [intOf]
    · go_wp2
      go_end0
      obtain ⟨hP, hS⟩ := insO_end HIz.out (by rw [HLn.out]; omega)
      exact ⟨rfl, L, HBz.out, HOz.out, hP, hS⟩
end Go.Proofs.YthnghknmgbimbaaGreatDoor

namespace Go.Proofs.YthnghknmgbimbaaGreatDoor
open Go Go.RowKit

/-- Coins in order. -/
def InOrd (L : List Co) : Prop := ∀ p q, (hq : q < L.length) → (h : p < q) → keyLt (Co.s L[q]) (Co.s L[p]) = false
theorem inOrd_of {L : List Co} (h : L.Pairwise fun a b => keyLt (Co.s a) (Co.s b) = true) : InOrd L := fun p q hq hpq => keyLt_asymm (List.pairwise_iff_getElem.1 h p q (by omega) hq hpq)
/-- Two numbers handed back; the world has drawn. -/
def RetAB (a b : Nat) (w : World) (e : Ending) (w' : World) : Prop := e = .returned (.tuple #[.int .i64 a, .int .i64 b]) ∧ ∃ q, w' = w.drewN q

set_option maxRecDepth 100000 in
set_option maxHeartbeats 2000000 in
theorem order2 (g n c : Nat) (L : List Co) (rest : List Value) (w : World) (h : Row w g L rest) (hl : L.length = n) (hO : InOrd L) (a b : Nat) (hab : a < b) (hb : b < n) (p : Value) :
    Calls Tryz.prog 271 #[.iface 119 (.slice (some ⟨g, 0, none⟩) n c), .int .i64 a, .int .i64 b, p] w (RetAB a b w) := by
  have HC := Lib.hid (show Calls Tryz.prog 337 #[.slice (some ⟨g, 0, none⟩) n c, .int .i64 b, .int .i64 a] w (RetQ (.bool false) w) by
    have := cLess g n c L rest w h hl b a hb (by omega)
    rwa [hO a b (by omega) hab] at this)
  clear h hO
  go_enter Tryz.func271, Tryz.ntmps271
  go_wp2_with (first | (go_at_call 337; refine HC.out.mono ?_; rintro e w' ⟨rfl, q, rfl⟩))
  go_ret2
  exact ⟨rfl, q, rfl⟩

set_option maxRecDepth 100000 in
set_option maxHeartbeats 2000000 in
theorem median (g n c : Nat) (L : List Co) (rest : List Value) (w : World) (h : Row w g L rest) (hl : L.length = n) (hO : InOrd L) (x y z : Nat) (hxy : x < y) (hyz : y < z) (hz : z < n) (p : Value) :
    Calls Tryz.prog 244 #[.iface 119 (.slice (some ⟨g, 0, none⟩) n c), .int .i64 x, .int .i64 y, .int .i64 z, p] w (RetQ (.int .i64 y) w) := by
  have hd : ∀ (u v : Nat), u < v → v < n → ∀ k, Calls Tryz.prog 271 #[.iface 119 (.slice (some ⟨g, 0, none⟩) n c), .int .i64 u, .int .i64 v, p] (w.drewN k) (RetAB u v w) := by
    intro u v huv hv k
    refine (order2 g n c L rest _ (h.drewN k) hl hO u v huv hv p).mono ?_
    rintro e w' ⟨rfl, q, rfl⟩
    exact ⟨rfl, dr2 _ _ _⟩
  have H0 := Lib.hid (order2 g n c L rest w h hl hO x y hxy (by omega) p)
  have H1 := Lib.hid (hd x y hxy (by omega))
  have H2 := Lib.hid (hd y z hyz hz)
  clear h hO hd
  go_enter Tryz.func244, Tryz.ntmps244
  go_wp2_with (first | (go_at_call 271; (with_reducible refine H0.out.mono ?_); rintro e w' ⟨rfl, q, rfl⟩) | (go_at_call 271; (with_reducible refine (H1.out _).mono ?_); rintro e w' ⟨rfl, q, rfl⟩) | (go_at_call 271; (with_reducible refine (H2.out _).mono ?_); rintro e w' ⟨rfl, q, rfl⟩))
  go_ret
  exact ⟨rfl, _, rfl⟩

theorem Row.ext {w w' : World} {g : Nat} {L : List Co} {rest : List Value} (h : Row w g L rest) (e : Ext w w') : Row w' g L rest := Blk.ext h e

set_option maxRecDepth 100000 in
set_option maxHeartbeats 2000000 in
theorem choosePivot (g n c : Nat) (L : List Co) (rest : List Value) (w : World) (h : Row w g L rest) (hl : L.length = n) (hO : InOrd L) (h12 : 12 < n) (h50 : n < 50) :
    Calls Tryz.prog 201 #[.iface 119 (.slice (some ⟨g, 0, none⟩) n c), .int .i64 0, .int .i64 n] w
      fun e w' => ∃ k : Nat, e = .returned (.tuple #[.int .i64 k, .int .i64 1]) ∧ Ext w w' := by
  have hq : ((n : Int)).tdiv 4 = ((n / 4 : Nat) : Int) := by rw [Int.tdiv_eq_ediv_of_nonneg (by omega)]; rfl
  obtain ⟨m, hm⟩ : ∃ m, m = n / 4 := ⟨_, rfl⟩
  rw [← hm] at hq
  have hm1 : 3 ≤ m := by omega
  have hm2 : m * 3 < n := by omega
  have hm3 : m ≤ 12 := by omega
  have H1 := Lib.hid (fun W (hW : Row W g L rest) p => median g n c L rest W hW hl hO m (m * 2) (m * 3) (by omega) (by omega) hm2 p)
  have HR := Lib.hid h
  have d8 : decide ((8 : Int) ≤ (n : Int)) = true := by simp; omega
  have d50 : decide ((50 : Int) ≤ (n : Int)) = false := by simp; omega
  clear h hO hm
  go_enter Tryz.func201, Tryz.ntmps201
  go_wp2_with (first | (go_at_call 244; refine (H1.out _ (HR.out.ext (Ext.alloc' _ _)) _).mono ?_; rintro e w' ⟨rfl, q, rfl⟩))
  go_ret2
  exact ⟨_, rfl, ((Ext.alloc' w _).trans' (Ext.drewN' _ _))⟩
set_option maxRecDepth 100000 in
set_option maxHeartbeats 2000000 in
theorem partialIns (g n c : Nat) (L : List Co) (rest : List Value) (w : World) (h : Row w g L rest) (hl : L.length = n) (hO : InOrd L) (h12 : 12 < n) (hn : n ≤ 1000000) :
    Calls Tryz.prog 203 #[.iface 119 (.slice (some ⟨g, 0, none⟩) n c), .int .i64 0, .int .i64 n] w (RetQ (.bool true) w) := by
  have HC := Lib.hid (fun (j k : Nat) (hj : j + 1 < n) => show Calls Tryz.prog 337 #[.slice (some ⟨g, 0, none⟩) n c, .int .i64 ((j : Int) + 1), .int .i64 j] (w.drewN k) (RetQ (.bool false) w) by
    have := cLess g n c L rest (w.drewN k) (h.drewN k) hl (j + 1) j hj (by omega)
    rw [hO j (j + 1) (by omega) (by omega)] at this
    refine Calls.mono this ?_
    rintro e w' ⟨rfl, q, rfl⟩
    exact ⟨rfl, dr2 _ _ _⟩)
  clear h hO
  go_enter Tryz.func203, Tryz.ntmps203
  go_wp2
  go_loopw [7, 8] (fun i j wz => i = .int .i64 1 ∧ j = .int .i64 0 ∧ w = wz) (fun _ _ _ => 0)
  case atStart => exact ⟨rfl, rfl, rfl⟩
  case round =>
    obtain ⟨rfl, rfl, rfl⟩ := hrel
    go_wp2
    go_loopw [7] (fun i wz => ∃ (j q : Nat), j + 1 ≤ n ∧ i = .int .i64 ((j : Int) + 1) ∧ wz = w.drewN q) (fun i _ => n - (intOf i).toNat)
    case atStart => exact ⟨0, 0, by omega, rfl, rfl⟩
    case round =>
      obtain ⟨j, q, hj, rfl, rfl⟩ := hrel
      by_cases hlt : j + 1 < n
      · have b1 : (j : Int) + 1 < (n : Int) := by omega
        have HC1 := Lib.hid (HC.out j q hlt)
        go_wp2_with (first | (go_at_call 337; (with_reducible refine HC1.out.mono ?_); rintro e w' ⟨rfl, q2, rfl⟩))
        go_roundw
        case rel => exact ⟨j + 1, q2, by omega, by go_num, rfl⟩
        case measure => simp [intOf]; omega
      · obtain rfl : j + 1 = n := by omega
        go_wp2
        go_ret
        exact ⟨rfl, _, rfl⟩

/-- Sorted coins of the same block, in w'. -/
def RetSort (g : Nat) (L0 : List Co) (rest : List Value) (w : World) (r : Value) (e : Ending) (w' : World) : Prop :=
  e = .returned r ∧ ∃ L, Row w' g L rest ∧ Only g w w' ∧ L.Perm L0 ∧ L.Pairwise fun a b => le (Co.s a) (Co.s b)

set_option maxRecDepth 100000 in
set_option maxHeartbeats 2000000 in
theorem pdqSmall (g n c lim : Nat) (L : List Co) (rest : List Value) (w : World) (h : Row w g L rest) (hl : L.length = n) (h12 : n ≤ 12) :
    Calls Tryz.prog 164 #[.iface 119 (.slice (some ⟨g, 0, none⟩) n c), .int .i64 0, .int .i64 n, .int .i64 lim] w (RetSort g L rest w (.tuple #[])) := by
  have H := Lib.hid (insSort g n c L rest w h hl (by omega))
  clear h
  have d12 : decide ((n : Int) ≤ 12) = true := by simp; omega
  go_enter Tryz.func164, Tryz.ntmps164
  go_wp2
  go_loopw [1, 2, 3, 8, 9] (fun a b l x y wz => a = .int .i64 0 ∧ b = .int .i64 n ∧ l = .int .i64 lim ∧ x = .bool true ∧ y = .bool true ∧ w = wz) (fun _ _ _ _ _ _ => 0)
  case atStart => exact ⟨rfl, rfl, rfl, rfl, rfl, rfl⟩
  case round =>
    obtain ⟨rfl, rfl, rfl, rfl, rfl, rfl⟩ := hrel
    go_wp2_with (first | (go_at_call 198; (with_reducible refine H.out.mono ?_); rintro e w' ⟨rfl, hh⟩; have H2 := Lib.hid hh; clear hh))
    go_end0
    exact ⟨rfl, H2.out⟩

set_option maxRecDepth 100000 in
set_option maxHeartbeats 2000000 in
theorem pdqOrd (g n c lim : Nat) (L : List Co) (rest : List Value) (w : World) (h : Row w g L rest) (hl : L.length = n) (hO : InOrd L) (h12 : 12 < n) (h50 : n < 50) (hlim : lim ≠ 0) :
    Calls Tryz.prog 164 #[.iface 119 (.slice (some ⟨g, 0, none⟩) n c), .int .i64 0, .int .i64 n, .int .i64 lim] w (RetSort g L rest w (.tuple #[])) := by
  have H1 := Lib.hid (choosePivot g n c L rest w h hl hO h12 h50)
  have H2 := Lib.hid (fun W (hW : Row W g L rest) => partialIns g n c L rest W hW hl hO h12 (by omega))
  have HR := Lib.hid h
  have HO := Lib.hid (show L.Pairwise fun a b => le (Co.s a) (Co.s b) from List.pairwise_iff_getElem.2 fun p q _ hq hpq => hO p q hq hpq)
  clear h hO
  have d12 : decide ((n : Int) ≤ 12) = false := by simp; omega
  have dl : ((lim : Int) == 0) = false := by simp; omega
  go_enter Tryz.func164, Tryz.ntmps164
  go_wp2
  go_loopw [1, 2, 3, 8, 9] (fun a b l x y wz => a = .int .i64 0 ∧ b = .int .i64 n ∧ l = .int .i64 lim ∧ x = .bool true ∧ y = .bool true ∧ w = wz) (fun _ _ _ _ _ _ => 0)
  case atStart => exact ⟨rfl, rfl, rfl, rfl, rfl, rfl⟩
  case round =>
    obtain ⟨rfl, rfl, rfl, rfl, rfl, rfl⟩ := hrel
    go_wp2_with (first | (go_at_call 201; (with_reducible refine H1.out.mono ?_); rintro e w' ⟨k, rfl, hh⟩; have HE := Lib.hid hh; clear hh) | (go_at_call 203; refine (H2.out _ (HR.out.ext HE.out)).mono ?_; rintro e w2 ⟨rfl, q, rfl⟩))
    go_end0
    exact ⟨rfl, L, (HR.out.ext HE.out).drewN _, (Only.of_ext HE.out).drewN _, List.Perm.refl _, HO.out⟩

theorem pdq (g n c lim : Nat) (L : List Co) (rest : List Value) (w : World) (h : Row w g L rest) (hl : L.length = n) (hO : n ≤ 12 ∨ n < 50 ∧ InOrd L) (hlim : lim ≠ 0) :
    Calls Tryz.prog 164 #[.iface 119 (.slice (some ⟨g, 0, none⟩) n c), .int .i64 0, .int .i64 n, .int .i64 lim] w (RetSort g L rest w (.tuple #[])) := by
  by_cases h12 : n ≤ 12
  · exact pdqSmall g n c lim L rest w h hl h12
  · rcases hO with hO | ⟨h50, hO⟩
    · exact absurd hO h12
    · exact pdqOrd g n c lim L rest w h hl hO (by omega) h50 hlim

theorem bitLen_pos : ∀ n : Fin 64, 1 ≤ n.val → Lib.bitLen n.val ≠ 0 := by decide +kernel

set_option maxRecDepth 100000 in
set_option maxHeartbeats 2000000 in
theorem sortSort (g n c : Nat) (L : List Co) (rest : List Value) (w : World) (h : Row w g L rest) (hl : L.length = n) (hO : n ≤ 12 ∨ n < 50 ∧ InOrd L) (h2 : 2 ≤ n) :
    Calls Tryz.prog 133 #[.iface 119 (.slice (some ⟨g, 0, none⟩) n c)] w (RetSort g L rest w (.tuple #[])) := by
  have H := Lib.hid (pdq g n c (Lib.bitLen n) L rest w h hl hO (bitLen_pos ⟨n, by omega⟩ (by show 1 ≤ n; omega)))
  have HB := Lib.hid (show Calls Tryz.prog 163 #[.int .u64 n] w fun e w' => e = .returned (.int .i64 (Lib.bitLen n)) ∧ w' = w by
    have := bLen (n : Int) w (by omega) (by omega); simpa using this)
  have d1 : decide ((n : Int) ≤ 1) = false := by simp; omega
  have hwr : IntKind.u64.wrap (n : Int) = (n : Int) := by rw [IntKind.wrap_u64]; omega
  clear h hO
  go_enter Tryz.func133, Tryz.ntmps133
  go_wp2_with (first | (go_at_call 336; refine (cLen _ n c _).mono ?_; rintro e w' ⟨rfl, rfl⟩) | (go_at_call 163; (with_reducible refine HB.out.mono ?_); rintro e w' ⟨rfl, rfl⟩) | (go_at_call 164; (with_reducible refine H.out.mono ?_); rintro e w' ⟨rfl, hh⟩; have H2 := Lib.hid hh; clear hh))
  go_end0
  exact ⟨rfl, H2.out⟩

set_option maxRecDepth 100000 in
set_option maxHeartbeats 2000000 in
/-- Coins.Sort of a row of the call's own. -/
theorem tSort (g n c : Nat) (L : List Co) (rest : List Value) (w : World) (h : Row w g L rest) (hl : L.length = n) (hO : n ≤ 12 ∨ n < 50 ∧ InOrd L) :
    Calls Tryz.prog 166 #[.slice (some ⟨g, 0, none⟩) n c] w (RetSort g L rest w (.slice (some ⟨g, 0, none⟩) n c)) := by
  by_cases h2 : 2 ≤ n
  · have H := Lib.hid (sortSort g n c L rest w h hl hO h2)
    have d1 : decide ((1 : Int) < (n : Int)) = true := by simp; omega
    clear h hO
    go_enter Tryz.func166, Tryz.ntmps166
    go_wp2_with (first | (go_at_call 133; (with_reducible refine H.out.mono ?_); rintro e w' ⟨rfl, hh⟩; have H2 := Lib.hid hh; clear hh))
    go_ret
    exact ⟨rfl, H2.out⟩
  · have HR := Lib.hid h
    have HP := Lib.hid (show L.Pairwise fun a b => le (Co.s a) (Co.s b) from List.pairwise_iff_getElem.2 fun p q _ hq hpq => by omega)
    have d1 : decide ((1 : Int) < (n : Int)) = false := by simp; omega
    clear h hO
    go_enter Tryz.func166, Tryz.ntmps166
    go_wp2
    go_ret
    exact ⟨rfl, L, HR.out, Only.refl _ _, List.Perm.refl _, HP.out⟩
end Go.Proofs.YthnghknmgbimbaaGreatDoor

namespace Go.Proofs.YthnghknmgbimbaaGreatDoor
open Go Go.RowKit Go.Maps

/-- A key of a map of strings. -/
def lk (s : ByteArray) : Lit := .string s.data.toList
theorem lk_inj {s t : ByteArray} (h : lk s = lk t) : s = t := by
  unfold lk at h; injection h with h
  exact ByteArray.ext (Array.ext' h)
theorem keyOf_str {P : Program} {k : TypeId} (hk : P.underlying k = some .string) {s : ByteArray} (hs : s.size ≤ maxLen) : keyOf P k (.string s) = some (lk s) := by
  simp [keyOf, hk, mapKey, hs, lk]
theorem keyOf_str_inv {P : Program} {k : TypeId} (hk : P.underlying k = some .string) {v : Value} {kl : Lit} (h : keyOf P k v = some kl) : ∃ s : ByteArray, v = .string s ∧ kl = lk s := by
  cases v <;> simp [keyOf, hk, mapKey] at h
  exact ⟨_, rfl, h.2.symm⟩
/-- A map's element, as it is. -/
def asIs (v : Value) : Option (DataW Value × List MemPlace) := some (.held v, [])

theorem infoStr : (Tryz.prog.info? 9).map (fun i => (i.zero, i.size, i.bytes)) = some (some (.string ByteArray.empty), 1, 16) := by kernel_rfl
/-- Keys handed back. -/
def RetKeys (D : DataW Value) (w : World) (e : Ending) (w' : World) : Prop :=
  ∃ (v : Value) (ks : List ByteArray), e = .returned v ∧ w'.ownsRow w.heap.size 9 1 v ks.length (ks.map Value.string) ∧ Ext w w' ∧ (∀ s, s ∈ ks ↔ has D (lk s) = true) ∧ ks.Pairwise (fun a b => keyLt a b = true)

theorem strict_of {L : List ByteArray} (h : L.Pairwise fun a b => le a b) (hn : L.Nodup) : L.Pairwise fun a b => keyLt a b = true :=
  (List.pairwise_and_iff.2 ⟨h, hn⟩).imp fun {a b} hh => by
    obtain ⟨h1, h2⟩ := hh
    cases e : keyLt a b
    · exact absurd (keyLt_tri e h1) h2
    · rfl

theorem keysK : Keyed Tryz.prog 9 := string_keyed Tryz.underlying9

theorem row_low {w : World} {base base' : Nat} {E : TypeId} {k n : Nat} {v : Value} {xs : List Value} (h : w.ownsRow base E k v n xs) (hb : base' ≤ base) : w.ownsRow base' E k v n xs := by
  refine ⟨h.1, ?_⟩
  rcases h.2 with h | ⟨g, cap, cur, e, hg, r⟩
  · exact Or.inl h
  · exact Or.inr ⟨g, cap, cur, e, by omega, r⟩
/-- The cells of a row of strings. -/
theorem str_cell {w : World} {g : Nat} {L : List ByteArray} {rest : List Value} (h : Blk w g 9 (L.map Value.string ++ rest)) (j : Nat) (hj : j < L.length) : w.cell? ⟨g, j, none⟩ = some (.string L[j]) := by
  rw [h.cell j, List.getElem?_append_left (by simpa using hj)]; simp [hj]
theorem str_swp {w : World} {g : Nat} {L : List ByteArray} {rest : List Value} (h : Blk w g 9 (L.map Value.string ++ rest)) (j : Nat) (hj : j + 1 < L.length) :
    Blk ((w.setCell ⟨g, j + 1, none⟩ (.string L[j])).setCell ⟨g, j, none⟩ (.string L[j + 1])) g 9 ((swp L j).map Value.string ++ rest) := by
  have := (h.set_ (j + 1) (.string L[j])).set_ j (.string L[j + 1])
  rw [swp_map, swp_set _ _ (by simpa using hj)]
  simpa [List.set_append, show j + 1 < L.length from hj, show j < L.length by omega] using this

end Go.Proofs.YthnghknmgbimbaaGreatDoor

namespace Go.Proofs.YthnghknmgbimbaaGreatDoor
open Go Go.RowKit

end Go.Proofs.YthnghknmgbimbaaGreatDoor

namespace Go.Proofs.YthnghknmgbimbaaGreatDoor
open Go Go.RowKit Go.Maps

/-- The coins of one denomination. -/
def ofS (s : ByteArray) (l : List Co) : List Co := l.filter fun c => decide (c.s = s)
theorem ofS_append (s : ByteArray) (l m : List Co) : ofS s (l ++ m) = ofS s l ++ ofS s m := by simp [ofS]
theorem ofS_ne {s : ByteArray} {l : List Co} : ofS s l ≠ [] ↔ ∃ c ∈ l, c.s = s := by
  simp [ofS, List.filter_eq_nil_iff]
theorem ofS_one (s : ByteArray) (c : Co) : ofS s [c] = if c.s = s then [c] else [] := by
  by_cases h : c.s = s <;> simp [ofS, h]
theorem ofS_len (s : ByteArray) (l : List Co) : (ofS s l).length ≤ l.length := by unfold ofS; exact List.length_filter_le _ _
/-- A row of coins of the call's own. -/
def CoRow (w : World) (base : Nat) (v : Value) (l : List Co) : Prop := w.ownsRow base 155 2 v l.length (flat2 (l.map Co.pair))
/-- The coins done so far, by their denominations, in the map of block M; G: where they lie. -/
def Grp (wr : World) (M : Nat) (done : List Co) (G : ByteArray → Value) : Prop :=
  ∃ (D : DataW Value), wr.ownsMap Tryz.prog 9 asIs M done.length D ∧ (∀ s, has D (lk s) = true ↔ ofS s done ≠ []) ∧
    (∀ s, ofS s done ≠ [] → (∀ z, D.atKey (lk s) z = .held (G s)) ∧ CoRow wr (M + 2) (G s) (ofS s done)) ∧
    (∀ s t, ofS s done ≠ [] → ofS t done ≠ [] → s ≠ t → (G s).ownBlock ≠ (G t).ownBlock) ∧ M + 2 ≤ wr.heap.size
/-- What a look-up hands back. -/
def valAt (G : ByteArray → Value) (done : List Co) (s : ByteArray) : Value := if ofS s done = [] then .slice none 0 0 else G s

theorem zeroCoins (w : World) : (zeroValue 119).run Tryz.prog w = .ok (.slice none 0 0) w := by kernel_rfl
theorem ownsMap_of_block {w w' : World} {M n : Nat} {D : DataW Value} (h : w.ownsMap Tryz.prog 9 asIs M n D) (e : w'.heap[M]? = w.heap[M]?) : w'.ownsMap Tryz.prog 9 asIs M n D := by
  obtain ⟨es, clock, hb, r⟩ := h
  exact ⟨es, clock, e.trans hb, r⟩
theorem grp_row {wr : World} {M : Nat} {done : List Co} {G : ByteArray → Value} (h : Grp wr M done G) (s : ByteArray) : CoRow wr (M + 2) (valAt G done s) (ofS s done) := by
  obtain ⟨D, hM, hH, hR, hD, hsz⟩ := h
  unfold valAt
  by_cases e : ofS s done = []
  · rw [if_pos e, e]; exact World.ownsRow_nil _ _ _ _
  · rw [if_neg e]; exact (hR s e).2
theorem grp_start (w : World) {W : World} (hM : W.heap[w.heap.size]? = some (.map #[] 0)) (hs : w.heap.size + 2 ≤ W.heap.size) (G : ByteArray → Value) : Grp W w.heap.size [] G :=
  ⟨.map [], ownsMap_of_block (w := w.alloc (.map #[] 0)) (World.ownsMap_made _ _ _ _) (by rw [hM, heap_alloc_new]), fun s => by simp [ofS, has], fun s h => absurd rfl h, fun s t h => absurd rfl h, hs⟩
end Go.Proofs.YthnghknmgbimbaaGreatDoor

namespace Go.Proofs.YthnghknmgbimbaaGreatDoor
open Go Go.RowKit Go.Maps

theorem own_slice {w : World} {base n k : Nat} {E : TypeId} {v : Value} {xs : List Value} (h : w.ownsRow base E k v n xs) : ∃ A c, v = .slice A n c := by
  rcases h.2 with ⟨rfl, rfl⟩ | ⟨g, cap, _, rfl, _⟩
  · exact ⟨_, _, rfl⟩
  · exact ⟨_, _, rfl⟩
/-- Keys in a row. -/
def KeysAt (w : World) (A : Option Addr) (ks : List ByteArray) : Prop := ks ≠ [] → ∃ g, A = some ⟨g, 0, none⟩ ∧ ∀ j (h : j < ks.length), w.cell? ⟨g, j, none⟩ = some (.string ks[j])
theorem KeysAt.ext {w w' : World} {A : Option Addr} {ks : List ByteArray} (h : KeysAt w A ks) (e : Ext w w') : KeysAt w' A ks := fun hn => by
  obtain ⟨g, hA, hc⟩ := h hn
  exact ⟨g, hA, fun j hj => e.cell' (hc j hj)⟩
theorem keysAt_of {w : World} {base : Nat} {A : Option Addr} {c : Nat} {ks : List ByteArray} (h : w.ownsRow base 9 1 (.slice A ks.length c) ks.length (ks.map Value.string)) : KeysAt w A ks := fun hn => by
  rcases h.2 with ⟨_, h0⟩ | ⟨g, cap, cur, hv, _, hb, _, _, _, ht⟩
  · exact absurd (List.length_eq_zero_iff.1 h0) hn
  · injection hv with h1 _ _
    refine ⟨g, h1, fun j hj => ?_⟩
    have hk : Blk w g 9 cur.toList := by unfold Blk; simpa using hb
    rw [hk.cell j]
    have : (cur.toList.take (ks.length * 1))[j]? = (ks.map Value.string)[j]? := by rw [ht]
    rw [List.getElem?_take, if_pos (by omega)] at this
    rw [this]; simp [hj]
theorem size_of_owns {w : World} {M n : Nat} {D : DataW Value} (h : w.ownsMap Tryz.prog 9 asIs M n D) : size D ≤ n := by
  obtain ⟨es, clock, _, F, hs, rfl⟩ := h
  simp [size, length_sorted]; exact hs
/-- The sum of one denomination. -/
def total (s : ByteArray) (l : List Co) : Int := ((ofS s l).map Co.z).sum
/-- The sums that are not 0. -/
def coal (ks : List ByteArray) (l : List Co) : List (ByteArray × Int) := ks.filterMap fun s => if total s l = 0 then none else some (s, total s l)
theorem coal_snoc (ks : List ByteArray) (s : ByteArray) (l : List Co) : coal (ks ++ [s]) l = coal ks l ++ if total s l = 0 then [] else [(s, total s l)] := by
  unfold coal; rw [List.filterMap_append]; congr 1
  by_cases h : total s l = 0 <;> simp [h]
theorem coal_strict {ks : List ByteArray} (l : List Co) (h : ks.Pairwise fun a b => keyLt a b = true) : (coal ks l).Pairwise fun a b => keyLt a.1 b.1 = true := by
  unfold coal
  refine List.Pairwise.filterMap _ ?_ h
  intro a a' haa b hb b' hb'
  split at hb
  · cases hb
  · split at hb'
    · cases hb'
    · injection hb with hb; injection hb' with hb'
      subst hb; subst hb'; exact haa
theorem row_of_own {w : World} {g : Nat} {cur : Array Value} {cs : List Co} (hb : w.heap[g]? = some (.cells cur 155 (0, 0))) (ht : cur.toList.take (cs.length * 2) = flat2 (cs.map Co.pair)) : Row w g cs (cur.toList.drop (cs.length * 2)) := by
  unfold Row Blk
  rw [← ht, List.take_append_drop]
  simpa using hb
theorem sum_bound (l : List Co) (B : Nat) (h : ∀ x ∈ l, x.z.natAbs ≤ B) : ((l.map Co.z).sum).natAbs ≤ l.length * B := by
  induction l with
  | nil => simp
  | cons a t ih =>
    have h1 := h a (by simp)
    have h2 := ih (fun x hx => h x (by simp [hx]))
    simp only [List.map_cons, List.sum_cons, List.length_cons, Nat.add_mul, Nat.one_mul]
    omega
/-- Coins added: of each denomination the sum, in order; sums of nothing are left out. -/
def RetAdd (all : List Co) (w : World) (e : Ending) (w' : World) : Prop :=
  ∃ (v : Value) (cs : List Co) (ks : List ByteArray), e = .returned v ∧ CoinsOwn w' w.heap.size v cs ∧ Ext w w' ∧ cs.map Co.val = coal ks all ∧ ks.Pairwise (fun a b => keyLt a b = true) ∧ ∀ s, s ∈ ks ↔ ofS s all ≠ []
theorem two_keep (w : World) (s : ByteArray) (b : Nat) :
    ((w.alloc (.cells #[.string s, .pointer (some ⟨b, 0, none⟩)] 155)).alloc (.cells #[.string s, .pointer (some ⟨b, 0, none⟩)] 155)).drew.cell? ⟨w.heap.size, 0, none⟩ = some (.string s) ∧
    ((w.alloc (.cells #[.string s, .pointer (some ⟨b, 0, none⟩)] 155)).alloc (.cells #[.string s, .pointer (some ⟨b, 0, none⟩)] 155)).drew.cell? ⟨w.heap.size, 1, none⟩ = some (.pointer (some ⟨b, 0, none⟩)) :=
  ⟨cell_old _ (by rw [cell_new]; rfl), cell_old _ (by rw [cell_new]; rfl)⟩

end Go.Proofs.YthnghknmgbimbaaGreatDoor

namespace Go.Proofs.YthnghknmgbimbaaGreatDoor
open Go Go.RowKit Go.Maps

/-- The sum of one denomination. -/
def totalP (s : ByteArray) (l : List (ByteArray × Int)) : Int := ((l.filter fun x => decide (x.1 = s)).map Prod.snd).sum
/-- The sums that are not 0. -/
def coalP (ks : List ByteArray) (l : List (ByteArray × Int)) : List (ByteArray × Int) := ks.filterMap fun s => if totalP s l = 0 then none else some (s, totalP s l)
theorem total_plain (s : ByteArray) (l : List Co) : total s l = totalP s (l.map Co.val) := by
  unfold total totalP ofS
  rw [List.filter_map, List.map_map]; rfl
theorem coal_plain (ks : List ByteArray) (l : List Co) : coal ks l = coalP ks (l.map Co.val) := by
  unfold coal coalP; congr 1; funext s; rw [total_plain]
/-- r has the sums of l by their denominations, in order, without those of nothing. -/
def IsAdd (l r : List (ByteArray × Int)) : Prop := ∃ ks : List ByteArray, ks.Pairwise (fun a b => keyLt a b = true) ∧ (∀ s, s ∈ ks ↔ ∃ x ∈ l, x.1 = s) ∧ r = coalP ks l
theorem isAdd_unique {l r r' : List (ByteArray × Int)} (h : IsAdd l r) (h' : IsAdd l r') : r = r' := by
  obtain ⟨ks, h1, h2, rfl⟩ := h
  obtain ⟨ks', h1', h2', rfl⟩ := h'
  have hn : ∀ {k : List ByteArray}, k.Pairwise (fun a b => keyLt a b = true) → k.Nodup := fun h => h.imp fun {a b} h e => by subst e; rw [keyLt_irrefl] at h; cases h
  have hp : ks.Perm ks' := (List.perm_ext_iff_of_nodup (hn h1) (hn h1')).2 fun s => (h2 s).trans (h2' s).symm
  have : ks = ks' := asc_unique (key := id) hp (h1.imp fun h => le_of_lt h) h1'
  rw [this]

/-- The two lists are added; or they are told as not sorted. -/
def RetAddOf (l m : List (ByteArray × Int)) (w : World) (e : Ending) (w' : World) : Prop :=
  if sortedB (l.map Prod.fst) = true ∧ sortedB (m.map Prod.fst) = true then ∃ v r, e = .returned (.tuple #[v, .bool true]) ∧ IsAdd (l ++ m) r ∧ PlainOwn w' w.heap.size 81 v r ∧ Ext w w'
  else e = .returned (.tuple #[.slice none 0 0, .bool false]) ∧ Ext w w'

theorem own_at {w : World} {base n c : Nat} {A : Option Addr} {cs : List Co} (h : CoinsOwn w base (.slice A n c) cs) : CoinsAt w A cs ∧ cs.length = n := by
  obtain ⟨h1, h2⟩ := h
  have hn : cs.length = n := by
    rcases h1.2 with ⟨hv, h0⟩ | ⟨g, cap, cur, hv, _⟩
    · injection hv with _ e _; omega
    · injection hv with _ e _; exact e.symm
  subst hn
  exact ⟨⟨recAt_of_owns (ps := cs.map Co.pair) (by simp) h1, h2⟩, rfl⟩
theorem coins_shape {w : World} {base : Nat} {v : Value} {cs : List Co} (h : CoinsOwn w base v cs) : ∃ A c, v = .slice A cs.length c := own_slice h.1

theorem coal_bound {ks : List ByteArray} {l : List Co} (hl : l.length < 50) (hz : ∀ x ∈ l, x.z.natAbs ≤ 1125899906842624) : ∀ y ∈ coal ks l, y.2.natAbs ≤ 56294995342131200 := by
  intro y hy
  obtain ⟨s, _, hs⟩ := List.mem_filterMap.1 hy
  split at hs
  · cases hs
  · injection hs with hs; subst hs
    have h1 : (total s l).natAbs ≤ (ofS s l).length * 1125899906842624 := sum_bound (ofS s l) _ fun x hx => hz x (List.mem_filter.1 hx).1
    have h2 := ofS_len s l
    have h3 : (ofS s l).length * 1125899906842624 ≤ 49 * 1125899906842624 := Nat.mul_le_mul_right _ (by omega)
    show (total s l).natAbs ≤ _
    omega

theorem fst_of {cs : List Co} {l : List (ByteArray × Int)} (h : cs.map Co.val = l) : cs.map Co.s = l.map Prod.fst := by rw [← h, List.map_map]; rfl
theorem mem_val {cs cs' : List Co} {l l' : List (ByteArray × Int)} (h : cs.map Co.val = l) (h' : cs'.map Co.val = l') {x : Co} (hx : x ∈ cs ++ cs') : x.val ∈ l ++ l' := by
  rw [← h, ← h', ← List.map_append]; exact List.mem_map_of_mem hx
theorem ofS_plain {cs cs' : List Co} {l l' : List (ByteArray × Int)} (h : cs.map Co.val = l) (h' : cs'.map Co.val = l') (s : ByteArray) : ofS s (cs ++ cs') ≠ [] ↔ ∃ x ∈ l ++ l', x.1 = s := by
  rw [ofS_ne, ← h, ← h', ← List.map_append]
  constructor
  · rintro ⟨c, hc, e⟩; exact ⟨c.val, List.mem_map_of_mem hc, e⟩
  · rintro ⟨x, hx, e⟩
    obtain ⟨c, hc, rfl⟩ := List.mem_map.1 hx
    exact ⟨c, hc, e⟩
theorem strict_len {ks : List ByteArray} {all : List Co} (hk : ks.Pairwise fun a b => keyLt a b = true) (hm : ∀ s, s ∈ ks ↔ ofS s all ≠ []) : ks.length ≤ all.length := by
  have h1 : ks.length ≤ (all.map Co.s).length := List.Nodup.length_le_of_subset (hk.imp fun {a b} h e => by subst e; rw [keyLt_irrefl] at h; cases h) (fun s hs => by
    obtain ⟨c, hc, e⟩ := ofS_ne.1 ((hm s).1 hs)
    exact List.mem_map.2 ⟨c, hc, e⟩)
  simpa using h1
theorem coal_len {cs3 cs cs2 : List Co} {ks : List ByteArray} {n m : Nat} (hv : cs3.map Co.val = coal ks (cs ++ cs2)) (h1 : cs.length = n) (h2 : cs2.length = m) (hm : ∀ s, s ∈ ks ↔ ofS s (cs ++ cs2) ≠ []) (hk : ks.Pairwise fun a b => keyLt a b = true) : cs3.length ≤ n + m := by
  have e1 : cs3.length = (coal ks (cs ++ cs2)).length := by rw [← hv]; simp
  have e2 : (coal ks (cs ++ cs2)).length ≤ ks.length := List.length_filterMap_le _ _
  have e3 := strict_len hk hm
  simp at e3; omega
theorem back_bound {cs3 : List Co} {ks : List ByteArray} {all : List Co} (hv : cs3.map Co.val = coal ks all) (hl : all.length < 50) (hz : ∀ x ∈ all, x.z.natAbs ≤ 1125899906842624) : ∀ x ∈ cs3, -maxI ≤ x.z ∧ x.z ≤ maxI := by
  intro x hx
  have : x.val ∈ coal ks all := by rw [← hv]; exact List.mem_map_of_mem hx
  have := coal_bound hl hz _ this
  have h2 : x.val.2 = x.z := rfl
  rw [h2] at this
  unfold maxI; omega

end Go.Proofs.YthnghknmgbimbaaGreatDoor

namespace Go.Proofs.YthnghknmgbimbaaGreatDoor
open Go Go.RowKit

theorem totalP_nil (s : ByteArray) : totalP s [] = 0 := rfl
theorem totalP_cons (s : ByteArray) (x : ByteArray × Int) (l : List (ByteArray × Int)) : totalP s (x :: l) = (if x.1 = s then x.2 else 0) + totalP s l := by
  unfold totalP
  by_cases h : x.1 = s <;> simp [h]
theorem totalP_append (s : ByteArray) (l m : List (ByteArray × Int)) : totalP s (l ++ m) = totalP s l + totalP s m := by
  induction l with
  | nil => simp [totalP_nil]
  | cons x l ih => rw [List.cons_append, totalP_cons, totalP_cons, ih]; omega
theorem totalP_perm (s : ByteArray) {l m : List (ByteArray × Int)} (h : l.Perm m) : totalP s l = totalP s m := by
  induction h with
  | nil => rfl
  | cons x _ ih => rw [totalP_cons, totalP_cons, ih]
  | swap x y l => rw [totalP_cons, totalP_cons, totalP_cons, totalP_cons]; omega
  | trans _ _ h1 h2 => rw [h1, h2]
theorem totalP_none {s : ByteArray} {l : List (ByteArray × Int)} (h : ∀ x ∈ l, x.1 ≠ s) : totalP s l = 0 := by
  induction l with
  | nil => rfl
  | cons x l ih => rw [totalP_cons, if_neg (h x (by simp)), ih (fun y hy => h y (by simp [hy]))]; omega
theorem totalP_bound' (s : ByteArray) {l : List (ByteArray × Int)} {m : Nat} (h : ∀ x ∈ l, x.2.natAbs ≤ m) : (totalP s l).natAbs ≤ l.length * m := by
  induction l with
  | nil => simp [totalP_nil]
  | cons x l ih =>
    have h1 := h x (by simp)
    have h2 := ih (fun y hy => h y (by simp [hy]))
    rw [totalP_cons, List.length_cons, Nat.add_mul]
    split <;> omega
theorem isAdd_perm {l m r : List (ByteArray × Int)} (hp : l.Perm m) (h : IsAdd l r) : IsAdd m r := by
  obtain ⟨ks, h1, h2, rfl⟩ := h
  refine ⟨ks, h1, fun s => (h2 s).trans ⟨?_, ?_⟩, ?_⟩
  · rintro ⟨x, hx, e⟩; exact ⟨x, hp.mem_iff.1 hx, e⟩
  · rintro ⟨x, hx, e⟩; exact ⟨x, hp.mem_iff.2 hx, e⟩
  · unfold coalP; congr 1; funext s; rw [totalP_perm s hp]

theorem totalP_bound (s : ByteArray) {l : List (ByteArray × Int)} (h : ∀ x ∈ l, x.2.natAbs ≤ 1125899906842624) : (totalP s l).natAbs ≤ l.length * 1125899906842624 := totalP_bound' s h
theorem strict_sorted {r : List (ByteArray × Int)} (h : r.Pairwise fun a b => keyLt a.1 b.1 = true) : sortedB (r.map Prod.fst) = true :=
  sortedB_true fun j hj => by
    have := List.pairwise_iff_getElem.1 h j (j + 1) (by simp at hj; omega) (by simpa using hj) (by omega)
    simpa using keyLt_asymm this

/-- What has been summed of a part of the coins. -/
def TotI (p out : List (ByteArray × Int)) : Prop :=
  out.Pairwise (fun a b => keyLt a.1 b.1 = true) ∧ (∀ s, (∃ y ∈ out, y.1 = s) ↔ ∃ x ∈ p, x.1 = s) ∧ ∀ y ∈ out, y.2 = totalP y.1 p
theorem totI_nil : TotI [] [] := ⟨List.Pairwise.nil, fun s => by simp, fun y hy => by simp at hy⟩
theorem totI_new {p out : List (ByteArray × Int)} {c : ByteArray × Int} (h : TotI p out) (hlt : ∀ y ∈ out, keyLt y.1 c.1 = true) : TotI (p ++ [c]) (out ++ [c]) := by
  obtain ⟨h1, h2, h3⟩ := h
  refine ⟨?_, fun s => ?_, fun y hy => ?_⟩
  · rw [List.pairwise_append]
    exact ⟨h1, by simp, fun a ha b hb => by simp at hb; subst hb; exact hlt a ha⟩
  · have := h2 s
    simp only [List.mem_append, List.mem_singleton, or_and_right, exists_or]
    rw [this]
  · rw [List.mem_append, List.mem_singleton] at hy
    rw [totalP_append, totalP_cons, totalP_nil]
    rcases hy with hy | rfl
    · rw [if_neg (fun e => by have := hlt y hy; rw [← e, keyLt_irrefl] at this; cases this), h3 y hy]; omega
    · rw [if_pos rfl, totalP_none (fun x hx e => by
        obtain ⟨y', hy', e'⟩ := (h2 y.1).2 ⟨x, hx, e⟩
        have := hlt y' hy'; rw [e', keyLt_irrefl] at this; cases this)]; omega
theorem totI_more {p ini : List (ByteArray × Int)} {s : ByteArray} {y z : Int} (h : TotI p (ini ++ [(s, y)])) : TotI (p ++ [(s, z)]) (ini ++ [(s, y + z)]) := by
  obtain ⟨h1, h2, h3⟩ := h
  rw [List.pairwise_append] at h1
  refine ⟨?_, fun t => ?_, fun x hx => ?_⟩
  · rw [List.pairwise_append]
    exact ⟨h1.1, by simp, fun a ha b hb => by simp at hb; subst hb; exact h1.2.2 a ha (s, y) (by simp)⟩
  · have := h2 t
    simp only [List.mem_append, List.mem_singleton, or_and_right, exists_or, exists_eq_left] at this ⊢
    rw [this]
    constructor
    · exact Or.inl
    · rintro (h | h)
      · exact h
      · exact this.1 (Or.inr h)
  · rw [List.mem_append, List.mem_singleton] at hx
    rw [totalP_append, totalP_cons, totalP_nil]
    rcases hx with hx | rfl
    · have := h1.2.2 x hx (s, y) (by simp)
      rw [if_neg (fun e => by dsimp at e this; rw [← e, keyLt_irrefl] at this; cases this), h3 x (by simp [hx])]; omega
    · have := h3 (s, y) (by simp)
      dsimp at this ⊢; rw [if_pos rfl, ← this]; omega
/-- The last one's name is not that of the next coin, which is not below: all are below it. -/
theorem totI_lt {p ini : List (ByteArray × Int)} {x c : ByteArray × Int} (h : TotI p (ini ++ [x])) (hp : ∀ y ∈ p, le y.1 c.1) (hne : x.1 ≠ c.1) : ∀ y ∈ ini ++ [x], keyLt y.1 c.1 = true := by
  obtain ⟨h1, h2, _⟩ := h
  obtain ⟨x', hx', e⟩ := (h2 x.1).1 ⟨x, by simp, rfl⟩
  have hlt : keyLt x.1 c.1 = true := key_lt_of_le_ne (e ▸ hp x' hx') hne
  intro y hy
  rw [List.mem_append, List.mem_singleton] at hy
  rcases hy with hy | rfl
  · rw [List.pairwise_append] at h1
    exact keyLt_trans (h1.2.2 y hy x (by simp)) hlt
  · exact hlt
theorem totI_end {l out : List (ByteArray × Int)} (h : TotI l out) : IsAdd l (out.filter fun x => x.2 ≠ 0) := by
  obtain ⟨h1, h2, h3⟩ := h
  refine ⟨out.map Prod.fst, ?_, fun s => ?_, ?_⟩
  · rw [List.pairwise_map]; exact h1
  · rw [← h2 s]; simp
  · unfold coalP
    rw [List.filterMap_map]
    clear h1 h2
    induction out with
    | nil => rfl
    | cons y out ih =>
      have hy := h3 y (by simp)
      rw [List.filter_cons, List.filterMap_cons, ih (fun x hx => h3 x (by simp [hx]))]
      simp only [Function.comp]
      rw [← hy]
      by_cases h0 : y.2 = 0 <;> simp [h0]
theorem totI_bound {p out : List (ByteArray × Int)} (h : TotI p out) (hb : ∀ x ∈ p, x.2.natAbs ≤ 1125899906842624) (hl : p.length ≤ 50) : ∀ y ∈ out, y.2.natAbs ≤ 56294995342131200 := by
  intro y hy
  rw [h.2.2 y hy]
  have := totalP_bound y.1 hb
  omega
theorem totI_len {p out : List (ByteArray × Int)} (h : TotI p out) : out.length ≤ p.length := by
  have h1 : (out.map Prod.fst).length ≤ (p.map Prod.fst).length := List.Nodup.length_le_of_subset (by
    have := h.1
    rw [← List.pairwise_map (f := Prod.fst) (R := fun a b => keyLt a b = true)] at this
    exact this.imp fun {a b} h e => by subst e; rw [keyLt_irrefl] at h; cases h) (fun s hs => by
    obtain ⟨y, hy, e⟩ := List.mem_map.1 hs
    obtain ⟨x, hx, e'⟩ := (h.2.1 s).1 ⟨y, hy, e⟩
    exact List.mem_map.2 ⟨x, hx, e'⟩)
  simpa using h1

/-- In order, without doubles: the sums are the coins themselves that are not 0. -/
theorem isAdd_self {l : List (ByteArray × Int)} (h : l.Pairwise fun a b => keyLt a.1 b.1 = true) : TotI l l := by
  refine ⟨h, fun s => Iff.rfl, fun y hy => ?_⟩
  induction l with
  | nil => simp at hy
  | cons x l ih =>
    rw [List.pairwise_cons] at h
    rw [totalP_cons]
    rw [List.mem_cons] at hy
    rcases hy with rfl | hy
    · rw [if_pos rfl, totalP_none (fun z hz e => by have := h.1 z hz; rw [e, keyLt_irrefl] at this; cases this)]; omega
    · rw [if_neg (fun e => by have := h.1 y hy; rw [e, keyLt_irrefl] at this; cases this), ← ih h.2 hy]; omega

/-- r has the sums of l, in order, none of them 0. -/
def SumsTo (l r : List (ByteArray × Int)) : Prop := r.Pairwise (fun a b => keyLt a.1 b.1 = true) ∧ (∀ y ∈ r, y.2 ≠ 0) ∧ ∀ s, totalP s r = totalP s l
theorem tot_get {r : List (ByteArray × Int)} (h : r.Pairwise fun a b => keyLt a.1 b.1 = true) {y : ByteArray × Int} (hy : y ∈ r) : totalP y.1 r = y.2 := ((isAdd_self h).2.2 y hy).symm
theorem tot_iff {r : List (ByteArray × Int)} (h : r.Pairwise fun a b => keyLt a.1 b.1 = true) (hz : ∀ y ∈ r, y.2 ≠ 0) (s : ByteArray) : totalP s r ≠ 0 ↔ ∃ y ∈ r, y.1 = s := by
  constructor
  · intro hn
    refine Classical.byContradiction fun k => hn (totalP_none fun x hx e => k ⟨x, hx, e⟩)
  · rintro ⟨y, hy, rfl⟩
    rw [tot_get h hy]; exact hz y hy
theorem tot_self {r : List (ByteArray × Int)} (h : r.Pairwise fun a b => keyLt a.1 b.1 = true) : r = (r.map Prod.fst).map fun s => (s, totalP s r) := by
  rw [List.map_map]
  have : ∀ y ∈ r, ((fun s => (s, totalP s r)) ∘ Prod.fst) y = id y := fun y hy => by simp only [Function.comp]; rw [tot_get h hy]; rfl
  rw [List.map_congr_left this, List.map_id]
theorem strict_nodup {ks : List ByteArray} (h : ks.Pairwise fun a b => keyLt a b = true) : ks.Nodup := h.imp fun {a b} h e => by subst e; rw [keyLt_irrefl] at h; cases h
theorem strict_keys {r : List (ByteArray × Int)} (h : r.Pairwise fun a b => keyLt a.1 b.1 = true) : (r.map Prod.fst).Pairwise fun a b => keyLt a b = true := List.pairwise_map.2 h
theorem keys_eq {r r' : List ByteArray} (h : r.Pairwise fun a b => keyLt a b = true) (h' : r'.Pairwise fun a b => keyLt a b = true) (hm : ∀ s, s ∈ r ↔ s ∈ r') : r = r' :=
  asc_unique (key := id) ((List.perm_ext_iff_of_nodup (strict_nodup h) (strict_nodup h')).2 hm) (h.imp fun h => le_of_lt h) h'
theorem totals_unique {r r' : List (ByteArray × Int)} (h : r.Pairwise fun a b => keyLt a.1 b.1 = true) (hz : ∀ y ∈ r, y.2 ≠ 0) (h' : r'.Pairwise fun a b => keyLt a.1 b.1 = true) (hz' : ∀ y ∈ r', y.2 ≠ 0)
    (ht : ∀ s, totalP s r = totalP s r') : r = r' := by
  rw [tot_self h, tot_self h', keys_eq (strict_keys h) (strict_keys h') (fun s => by
    have e1 := tot_iff h hz s
    have e2 := tot_iff h' hz' s
    rw [ht s] at e1
    simp only [List.mem_map]
    exact e1.symm.trans e2)]
  exact List.map_congr_left fun s _ => by rw [ht s]
theorem sums_unique {l l' r r' : List (ByteArray × Int)} (h : SumsTo l r) (h' : SumsTo l' r') (ht : ∀ s, totalP s l = totalP s l') : r = r' :=
  totals_unique h.1 h.2.1 h'.1 h'.2.1 fun s => by rw [h.2.2, h'.2.2, ht]
theorem coalP_cons (k : ByteArray) (ks : List ByteArray) (l : List (ByteArray × Int)) : coalP (k :: ks) l = (if totalP k l = 0 then [] else [(k, totalP k l)]) ++ coalP ks l := by
  unfold coalP
  rw [List.filterMap_cons]
  by_cases h : totalP k l = 0 <;> simp [h]
theorem coalP_mem {ks : List ByteArray} {l : List (ByteArray × Int)} {y : ByteArray × Int} (h : y ∈ coalP ks l) : y.1 ∈ ks ∧ y.2 = totalP y.1 l ∧ y.2 ≠ 0 := by
  unfold coalP at h
  obtain ⟨s, hs, he⟩ := List.mem_filterMap.1 h
  split at he
  · cases he
  · injection he with he; subst he; exact ⟨hs, rfl, by assumption⟩
theorem coalP_total {ks : List ByteArray} (l : List (ByteArray × Int)) (hk : ks.Nodup) (s : ByteArray) : (s ∈ ks → totalP s (coalP ks l) = totalP s l) ∧ (s ∉ ks → totalP s (coalP ks l) = 0) := by
  induction ks with
  | nil => exact ⟨fun h => absurd h (by simp), fun _ => rfl⟩
  | cons k ks ih =>
    rw [List.nodup_cons] at hk
    obtain ⟨i1, i2⟩ := ih hk.2
    rw [coalP_cons, totalP_append]
    by_cases e : s = k
    · subst e
      refine ⟨fun _ => ?_, fun h => absurd (by simp) h⟩
      rw [i2 hk.1]
      by_cases h0 : totalP s l = 0
      · rw [if_pos h0, totalP_nil, h0]; rfl
      · rw [if_neg h0, totalP_cons, if_pos rfl, totalP_nil]; omega
    · have h1 : totalP s (if totalP k l = 0 then [] else [(k, totalP k l)]) = 0 := by
        split
        · rfl
        · rw [totalP_cons, if_neg (fun h => e h.symm), totalP_nil]; rfl
      rw [h1]
      refine ⟨fun h => ?_, fun h => ?_⟩
      · rw [List.mem_cons] at h
        rw [i1 (h.resolve_left e)]; omega
      · rw [List.mem_cons] at h
        rw [i2 (fun k => h (Or.inr k))]; rfl
theorem isAdd_sums {l r : List (ByteArray × Int)} (h : IsAdd l r) : SumsTo l r := by
  obtain ⟨ks, h1, h2, rfl⟩ := h
  refine ⟨?_, fun y hy => (coalP_mem hy).2.2, fun s => ?_⟩
  · clear h2
    induction ks with
    | nil => exact List.Pairwise.nil
    | cons k ks ih =>
      rw [List.pairwise_cons] at h1
      rw [coalP_cons, List.pairwise_append]
      refine ⟨by split <;> simp, ih h1.2, fun a ha b hb => ?_⟩
      have hb' := (coalP_mem hb).1
      split at ha
      · simp at ha
      · simp at ha; subst ha; exact h1.1 _ hb'
  · by_cases hs : s ∈ ks
    · exact (coalP_total l (strict_nodup h1) s).1 hs
    · rw [(coalP_total l (strict_nodup h1) s).2 hs, totalP_none fun x hx e => hs ((h2 s).2 ⟨x, hx, e⟩)]
theorem isAdd_len {l r : List (ByteArray × Int)} (h : IsAdd l r) : r.length ≤ l.length := by
  obtain ⟨ks, h1, h2, rfl⟩ := h
  have e1 : (coalP ks l).length ≤ ks.length := List.length_filterMap_le _ _
  have e2 : ks.length ≤ (l.map Prod.fst).length := List.Nodup.length_le_of_subset (strict_nodup h1) (fun s hs => by
    obtain ⟨x, hx, e⟩ := (h2 s).1 hs
    exact List.mem_map.2 ⟨x, hx, e⟩)
  simp at e2; omega
theorem isAdd_size {l r : List (ByteArray × Int)} {m : Nat} (h : IsAdd l r) (hs : ∀ x ∈ l, x.1.size ≤ m) : ∀ y ∈ r, y.1.size ≤ m := by
  obtain ⟨ks, h1, h2, rfl⟩ := h
  intro y hy
  obtain ⟨x, hx, e⟩ := (h2 y.1).1 (coalP_mem hy).1
  rw [← e]; exact hs x hx
theorem isAdd_bound {l r : List (ByteArray × Int)} {m : Nat} (h : IsAdd l r) (hb : ∀ x ∈ l, x.2.natAbs ≤ m) : ∀ y ∈ r, y.2.natAbs ≤ l.length * m := by
  obtain ⟨ks, h1, h2, rfl⟩ := h
  intro y hy
  rw [(coalP_mem hy).2.1]
  exact totalP_bound' y.1 hb
theorem isAdd_sorted {l r : List (ByteArray × Int)} (h : IsAdd l r) : sortedB (r.map Prod.fst) = true := strict_sorted (isAdd_sums h).1
end Go.Proofs.YthnghknmgbimbaaGreatDoor

namespace Go.Proofs.YthnghknmgbimbaaGreatDoor
open Go Go.RowKit

/-- The names ascend strictly. -/
def AscP (l : List (ByteArray × Int)) : Prop := l.Pairwise fun a b => keyLt a.1 b.1 = true
theorem vnz_mem {l : List (ByteArray × Int)} {x : ByteArray × Int} (h : x ∈ vnz l) : x ∈ l ∧ x.2 ≠ 0 := by simpa [vnz] using h
theorem vnz_total (s : ByteArray) (l : List (ByteArray × Int)) : totalP s (vnz l) = totalP s l := by
  induction l with
  | nil => rfl
  | cons x l ih =>
    rw [totalP_cons, ← ih]
    by_cases h : x.2 = 0
    · rw [show vnz (x :: l) = vnz l by simp [vnz, h]]
      simp [h]
    · rw [show vnz (x :: l) = x :: vnz l by simp [vnz, h], totalP_cons]
theorem vnz_asc {l : List (ByteArray × Int)} (h : AscP l) : AscP (vnz l) := List.Pairwise.filter _ h
theorem vnz_sums {l : List (ByteArray × Int)} (h : AscP l) : SumsTo l (vnz l) := ⟨vnz_asc h, fun _ hy => (vnz_mem hy).2, fun s => vnz_total s l⟩
theorem dmrg_mem : ∀ (l m : List (ByteArray × Int)) (x : ByteArray × Int), x ∈ dmrg l m → (∃ y ∈ l, y.1 = x.1) ∨ ∃ y ∈ m, y.1 = x.1
  | [], m, x, h => by rw [dmrg_nil'] at h; exact Or.inr ⟨x, (vnz_mem h).1, rfl⟩
  | a :: l, [], x, h => by rw [dmrg_nil] at h; exact Or.inl ⟨x, (vnz_mem h).1, rfl⟩
  | a :: l, b :: m, x, h => by
    rw [dmrg_cons] at h
    split at h
    · rcases List.mem_append.1 h with h | h
      · have := (vnz_mem h).1
        rw [List.mem_singleton] at this
        subst this
        exact Or.inl ⟨_, List.mem_cons_self, rfl⟩
      · rcases dmrg_mem l (b :: m) x h with ⟨y, hy, e⟩ | h2
        · exact Or.inl ⟨y, List.mem_cons_of_mem _ hy, e⟩
        · exact Or.inr h2
    · split at h
      · rcases List.mem_append.1 h with h | h
        · have := (vnz_mem h).1
          rw [List.mem_singleton] at this
          subst this
          exact Or.inr ⟨_, List.mem_cons_self, rfl⟩
        · rcases dmrg_mem (a :: l) m x h with h2 | ⟨y, hy, e⟩
          · exact Or.inl h2
          · exact Or.inr ⟨y, List.mem_cons_of_mem _ hy, e⟩
      · rcases List.mem_append.1 h with h | h
        · have := (vnz_mem h).1
          rw [List.mem_singleton] at this
          exact Or.inl ⟨a, List.mem_cons_self, by rw [this]⟩
        · rcases dmrg_mem l m x h with ⟨y, hy, e⟩ | ⟨y, hy, e⟩
          · exact Or.inl ⟨y, List.mem_cons_of_mem _ hy, e⟩
          · exact Or.inr ⟨y, List.mem_cons_of_mem _ hy, e⟩
termination_by l m => l.length + m.length
theorem dmrg_low {l m : List (ByteArray × Int)} {s : ByteArray} (hl : ∀ y ∈ l, keyLt s y.1 = true) (hm : ∀ y ∈ m, keyLt s y.1 = true) : ∀ x ∈ dmrg l m, keyLt s x.1 = true := fun x hx => by
  rcases dmrg_mem l m x hx with ⟨y, hy, e⟩ | ⟨y, hy, e⟩
  · rw [← e]; exact hl y hy
  · rw [← e]; exact hm y hy
theorem sums_put {a : ByteArray × Int} {L r T : List (ByteArray × Int)} (h : SumsTo L r) (hlow : ∀ x ∈ r, keyLt a.1 x.1 = true) (ht : ∀ s, totalP s T = totalP s [a] + totalP s L) : SumsTo T (vnz [a] ++ r) := by
  refine ⟨List.pairwise_append.2 ⟨vnz_asc (List.pairwise_singleton _ _), h.1, fun x hx y hy => ?_⟩, fun y hy => ?_, fun s => by rw [totalP_append, vnz_total, h.2.2 s, ht]⟩
  · have := (vnz_mem hx).1
    rw [List.mem_singleton] at this
    subst this
    exact hlow y hy
  · rcases List.mem_append.1 hy with hy | hy
    · exact (vnz_mem hy).2
    · exact h.2.1 y hy
theorem dmrg_sums : ∀ (l m : List (ByteArray × Int)), AscP l → AscP m → SumsTo (l ++ m) (dmrg l m)
  | [], m, _, hm => by rw [dmrg_nil', List.nil_append]; exact vnz_sums hm
  | a :: l, [], hl, _ => by rw [dmrg_nil, List.append_nil]; exact vnz_sums hl
  | a :: l, b :: m, hl, hm => by
    have h1 := List.pairwise_cons.1 hl
    have h2 := List.pairwise_cons.1 hm
    rw [dmrg_cons]
    split
    · next hab =>
      refine sums_put (dmrg_sums l (b :: m) h1.2 hm) (dmrg_low h1.1 fun y hy => ?_) fun s => ?_
      · rcases List.mem_cons.1 hy with rfl | hy
        · exact hab
        · exact keyLt_trans hab (h2.1 y hy)
      · rw [List.cons_append, totalP_cons, totalP_cons, totalP_nil]; omega
    · next hab =>
      split
      · next hba =>
        refine sums_put (dmrg_sums (a :: l) m hl h2.2) (dmrg_low (fun y hy => ?_) h2.1) fun s => ?_
        · rcases List.mem_cons.1 hy with rfl | hy
          · exact hba
          · exact keyLt_trans hba (h1.1 y hy)
        · rw [totalP_append, totalP_append, totalP_cons s b m, totalP_cons s b [], totalP_nil]; omega
      · next hba =>
        have e : a.1 = b.1 := keyLt_tri (by simpa using hab) (by simpa using hba)
        refine sums_put (a := (a.1, a.2 + b.2)) (dmrg_sums l m h1.2 h2.2) (dmrg_low h1.1 fun y hy => by rw [e]; exact h2.1 y hy) fun s => ?_
        rw [totalP_append, totalP_append, totalP_cons s a l, totalP_cons s b m, totalP_cons, totalP_nil, ← e]
        show _ = ((if a.1 = s then a.2 + b.2 else 0) + 0) + _
        split <;> omega
termination_by l m => l.length + m.length
end Go.Proofs.YthnghknmgbimbaaGreatDoor
