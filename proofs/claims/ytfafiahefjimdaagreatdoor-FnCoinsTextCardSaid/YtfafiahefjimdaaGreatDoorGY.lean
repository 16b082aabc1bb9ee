/-
  The contract of bits.Len, off the shelf.
  Contracts of the coins' sort.Interface: Len, Less, Swap of neighbours.
  Contracts of sort.Sort and its parts over coins: up to 12 coins; and coins in order.
  Contracts of pdqsort's parts at coins in order; pdqsort; sort.Sort; Coins.Sort.
  The contract of zzKeys at the maps of coins: the keys, in order.
  Contracts of the questions whether lists are sorted.
  Coins grouped by their denominations in a map of slices: what a look-up, an append and a store do.
  The contract of Coins.safeAdd.
  Contracts of Coins.Add and impl.AddOf, in plain lists.
  Plain laws of the reference's SumTotal: the sums by denominations of coins in order.
-/
import Derived.Test.YtfafiahefjimdaaGreatDoorChecked
import Derived.Test.YtfafiahefjimdaaGreatDoorGA
import Derived.Shelf.Small.Bits
import Derived.Tactics
import Derived.Test.YtfafiahefjimdaaGreatDoorGC
import Derived.BigQuiet
import Derived.BigRegion
import Derived.Handy
import Derived.Maps.RangeWalk
import Derived.Test.YtfafiahefjimdaaGreatDoorGB
import Derived.Deep.AppendLies
import Derived.Deep.RegionLaw
import Derived.Deep.RegionHeld3
namespace Go.Proofs.YtfafiahefjimdaaGreatDoor
open Go Go.RowKit Go.Shelf

def renL : Ren where
  f := fun n => if n = 125 then 326 else if n = 128 then 353 else 354
  t := fun n => if n = 3 then 3 else if n = 4 then 4 else if n = 5 then 5 else if n = 9 then 9 else if n = 46 then 220 else if n = 51 then 296 else 31
  g := fun n => n
theorem laysL : Lays.n125 Tryz.prog renL where
  mixed := by kernel_rfl
  f125 := by kernel_rfl
  f128 := by kernel_rfl
  f129 := by kernel_rfl
  t3 := by kernel_rfl
  a3 := by intro w; kernel_rfl
  z3 := by intro w; kernel_rfl
  v3 := by intro w; kernel_rfl
  t4 := by kernel_rfl
  a4 := by intro w; kernel_rfl
  z4 := by intro w; kernel_rfl
  v4 := by intro w; kernel_rfl
  t5 := by kernel_rfl
  a5 := by intro w; kernel_rfl
  z5 := by intro w; kernel_rfl
  v5 := by intro w; kernel_rfl
  t9 := by kernel_rfl
  a9 := by intro w; kernel_rfl
  z9 := by intro w; kernel_rfl
  v9 := by intro w; kernel_rfl
  t46 := by kernel_rfl
  a46 := by intro w; kernel_rfl
  z46 := by intro w; kernel_rfl
  v46 := by intro w; kernel_rfl
  t51 := by kernel_rfl
  a51 := by intro w; kernel_rfl
  z51 := by intro w; kernel_rfl
  v51 := by intro w; kernel_rfl
  t53 := by kernel_rfl
  a53 := by intro w; kernel_rfl
  z53 := by intro w; kernel_rfl
  v53 := by intro w; kernel_rfl

theorem bLen (x : Int) (w : World) (h0 : 0 ≤ x) (h1 : x ≤ 18446744073709551615) : Calls Tryz.prog 326 #[.int .u64 x] w fun e w' => e = .returned (.int .i64 (Lib.bitLen x.toNat)) ∧ w' = w :=
  Any.bits_Len laysL x w h0 h1
end Go.Proofs.YtfafiahefjimdaaGreatDoor

namespace Go.Proofs.YtfafiahefjimdaaGreatDoor
open Go Go.RowKit

/-- The coins of a block of the call's own. -/
def Row (w : World) (g : Nat) (L : List Co) (rest : List Value) : Prop := Blk w g 152 (flat2 (L.map Co.pair) ++ rest)
theorem Row.drewN {w : World} {g : Nat} {L : List Co} {rest : List Value} (h : Row w g L rest) (n : Nat) : Row (w.drewN n) g L rest := h
theorem Row.drew {w : World} {g : Nat} {L : List Co} {rest : List Value} (h : Row w g L rest) : Row w.drew g L rest := h
theorem Only.drew' {g : Nat} {a w : World} (h : Only g a w) : Only g a w.drew := ⟨h.os, h.tape, h.output, h.size, h.block⟩
theorem Row.cell {w : World} {g : Nat} {L : List Co} {rest : List Value} (h : Row w g L rest) (j : Nat) (hj : j < L.length) :
    w.cell? ⟨g, j * 2, none⟩ = some (.string (Co.s L[j])) ∧ w.cell? ⟨g, j * 2 + 1, none⟩ = some (.pointer (some ⟨Co.b L[j], 0, none⟩)) := by
  have hl : (flat2 (L.map Co.pair)).length = L.length * 2 := by rw [flat2_length]; simp
  have hg := flat2_get (L.map Co.pair) j (by simpa using hj)
  have h1 : j * 2 < (flat2 (L.map Co.pair)).length := by omega
  have h2 : j * 2 + 1 < (flat2 (L.map Co.pair)).length := by omega
  constructor
  · rw [Blk.cell h, List.getElem?_append_left h1, hg.1]; simp [Co.pair]
  · rw [Blk.cell h, List.getElem?_append_left h2, hg.2]; simp [Co.pair]
theorem flat2_cons (a : Value × Value) (l : List (Value × Value)) : flat2 (a :: l) = a.1 :: a.2 :: flat2 l := by simp [flat2]
theorem swp_succ {α : Type} (a : α) (t : List α) (j : Nat) : swp (a :: t) (j + 1) = a :: swp t j := by cases t <;> simp [swp]
theorem swp_flat : ∀ (l : List (Value × Value)) (j : Nat) (h : j + 1 < l.length),
    flat2 (swp l j) = ((((flat2 l).set ((j + 1) * 2) l[j].1).set ((j + 1) * 2 + 1) l[j].2).set (j * 2) l[j + 1].1).set (j * 2 + 1) l[j + 1].2
  | a :: b :: t, 0, _ => by simp [swp, flat2_cons]
  | a :: t, j + 1, h => by
    have ih := swp_flat t j (by simpa using h)
    rw [swp_succ, flat2_cons, flat2_cons, ih]
    simp only [List.getElem_cons_succ]
    rw [show (j + 1 + 1) * 2 = (j + 1) * 2 + 1 + 1 by omega, show (j + 1) * 2 = j * 2 + 1 + 1 by omega]
    simp
  | [a], 0, h => by simp at h
  | [], _, h => by simp at h
theorem Row.swp {w : World} {g : Nat} {L : List Co} {rest : List Value} (h : Row w g L rest) (j : Nat) (hj : j + 1 < L.length) :
    Row ((((w.setCell ⟨g, (j + 1) * 2, none⟩ (.string (Co.s L[j]))).setCell ⟨g, (j + 1) * 2 + 1, none⟩ (.pointer (some ⟨Co.b L[j], 0, none⟩))).setCell ⟨g, j * 2, none⟩ (.string (Co.s L[j + 1]))).setCell ⟨g, j * 2 + 1, none⟩ (.pointer (some ⟨Co.b L[j + 1], 0, none⟩))) g (swp L j) rest := by
  have := (((Blk.set_ h ((j + 1) * 2) (.string (Co.s L[j]))).set_ ((j + 1) * 2 + 1) (.pointer (some ⟨Co.b L[j], 0, none⟩))).set_ (j * 2) (.string (Co.s L[j + 1]))).set_ (j * 2 + 1) (.pointer (some ⟨Co.b L[j + 1], 0, none⟩))
  unfold Row
  have hl : (flat2 (L.map Co.pair)).length = L.length * 2 := by rw [flat2_length]; simp
  rw [swp_map, swp_flat _ _ (by simpa using hj)]
  have e : ∀ (xs ys : List Value) (i : Nat) (u : Value), i < xs.length → (xs ++ ys).set i u = xs.set i u ++ ys := fun xs ys i u hi => by rw [List.set_append, if_pos hi]
  rw [e _ _ _ _ (by omega), e _ _ _ _ (by simp; omega), e _ _ _ _ (by simp; omega), e _ _ _ _ (by simp; omega)] at this
  simpa [Co.pair] using this

theorem cLen (a : Option Addr) (n c : Nat) (w : World) : Calls Tryz.prog 432 #[.slice a n c] w fun e w' => e = .returned (.int .i64 n) ∧ w' = w := by
  go_enter Tryz.func432, Tryz.ntmps432
  go_wp2
  go_ret
  exact ⟨rfl, rfl⟩

set_option maxRecDepth 100000 in
theorem cLess (g n c : Nat) (L : List Co) (rest : List Value) (w : World) (h : Row w g L rest) (hl : L.length = n) (i j : Nat) (hi : i < n) (hj : j < n) :
    Calls Tryz.prog 433 #[.slice (some ⟨g, 0, none⟩) n c, .int .i64 i, .int .i64 j] w (RetQ (.bool (keyLt (Co.s (L[i]'(by omega))) (Co.s (L[j]'(by omega))))) w) := by
  obtain ⟨s, hs⟩ : ∃ s, s = Co.s (L[i]'(by omega)) := ⟨_, rfl⟩
  obtain ⟨t, ht⟩ : ∃ t, t = Co.s (L[j]'(by omega)) := ⟨_, rfl⟩
  have c0 : w.cell? ⟨g, i * 2, none⟩ = some (.string s) := by rw [hs]; exact (h.cell i (by omega)).1
  have c1 : w.cell? ⟨g, j * 2, none⟩ = some (.string t) := by rw [ht]; exact (h.cell j (by omega)).1
  rw [← hs, ← ht]
  have b0 : (0 : Int) ≤ (i : Int) := by omega
  have b1 : (i : Int) < (n : Int) := by omega
  have b2 : (0 : Int) ≤ (j : Int) := by omega
  have b3 : (j : Int) < (n : Int) := by omega
  clear h hs ht hl hi hj
  have F := Lib.hid (show keyLt s t = Op.bytesLess s.toList t.toList from rfl)
  go_enter Tryz.func433, Tryz.ntmps433
  go_wp2
  go_quiet (fail)
  go_wp2
  go_ret
  rw [F.out]; exact ⟨rfl, by first | exact dr1 _ _ | exact dr2 _ _ _⟩

set_option maxRecDepth 100000 in
set_option maxHeartbeats 1000000 in
theorem cSwap (g n c : Nat) (L : List Co) (rest : List Value) (w : World) (h : Row w g L rest) (hl : L.length = n) (j : Nat) (hj : j + 1 < n) :
    Calls Tryz.prog 434 #[.slice (some ⟨g, 0, none⟩) n c, .int .i64 ((j : Int) + 1), .int .i64 j] w fun e w' => e = .returned (.tuple #[]) ∧ Row w' g (swp L j) rest ∧ Only g w w' := by
  obtain ⟨s, hs⟩ : ∃ s, s = Co.s (L[j]'(by omega)) := ⟨_, rfl⟩
  obtain ⟨t, ht⟩ : ∃ t, t = Co.s (L[j + 1]'(by omega)) := ⟨_, rfl⟩
  obtain ⟨x, hx⟩ : ∃ x, x = Co.b (L[j]'(by omega)) := ⟨_, rfl⟩
  obtain ⟨y, hy⟩ : ∃ y, y = Co.b (L[j + 1]'(by omega)) := ⟨_, rfl⟩
  have c0 : w.cell? ⟨g, j * 2, none⟩ = some (.string s) := by rw [hs]; exact (h.cell j (by omega)).1
  have c1 : w.cell? ⟨g, (j + 1) * 2, none⟩ = some (.string t) := by rw [ht]; exact (h.cell (j + 1) (by omega)).1
  have d0 : w.cell? ⟨g, j * 2 + 1, none⟩ = some (.pointer (some ⟨x, 0, none⟩)) := by rw [hx]; exact (h.cell j (by omega)).2
  have d1 : w.cell? ⟨g, (j + 1) * 2 + 1, none⟩ = some (.pointer (some ⟨y, 0, none⟩)) := by rw [hy]; exact (h.cell (j + 1) (by omega)).2
  have f0 : w.frozen? ⟨g, j * 2, none⟩ = false := Blk.frozen h _
  have f1 : w.frozen? ⟨g, (j + 1) * 2, none⟩ = false := Blk.frozen h _
  have f2 : w.frozen? ⟨g, j * 2 + 1, none⟩ = false := Blk.frozen h _
  have f3 : w.frozen? ⟨g, (j + 1) * 2 + 1, none⟩ = false := Blk.frozen h _
  have b0 : (0 : Int) ≤ (j : Int) := by omega
  have b1 : (j : Int) < (n : Int) := by omega
  have b2 : (j : Int) + 1 < (n : Int) := by omega
  have HR := Lib.hid h; have HS := Lib.hid hs; have HT := Lib.hid ht; have HX := Lib.hid hx; have HY := Lib.hid hy; have HL := Lib.hid hl
  clear h hs ht hx hy
  go_enter Tryz.func434, Tryz.ntmps434
  go_wp2
  go_region
  all_goals go_wp2
  all_goals go_end0
  all_goals exact ⟨rfl, by rw [HS.out, HT.out, HX.out, HY.out]; exact (HR.out.swp j (by omega)).drew, ((((Only.refl g w).set_ _ _).set_ _ _).set_ _ _ |>.set_ _ _).drew'⟩
end Go.Proofs.YtfafiahefjimdaaGreatDoor

namespace Go.Proofs.YtfafiahefjimdaaGreatDoor
open Go Go.RowKit

/-- Coins as a sort.Interface. -/
def sortV (g n c : Nat) : Value := .iface 161 (.slice (some ⟨g, 0, none⟩) n c)

set_option maxRecDepth 100000 in
set_option maxHeartbeats 1000000 in
theorem insSort (g n c : Nat) (L0 : List Co) (rest : List Value) (w : World) (h : Row w g L0 rest) (hl : L0.length = n) (hn : n ≤ 1000000) :
    Calls Tryz.prog 355 #[.iface 161 (.slice (some ⟨g, 0, none⟩) n c), .int .i64 0, .int .i64 n] w
      fun e w' => e = .returned (.tuple #[]) ∧ ∃ L, Row w' g L rest ∧ Only g w w' ∧ L.Perm L0 ∧ L.Pairwise fun a b => le (Co.s a) (Co.s b) := by
  have HR := Lib.hid h; have HL := Lib.hid hl
  clear h hl
  go_enter Tryz.func355, Tryz.ntmps355
  go_wp2
  go_loopw [6] (fun i wz => ∃ (k : Nat) (L : List Co), 1 ≤ k ∧ (k ≤ n ∨ k = 1) ∧ i = .int .i64 k ∧ Row wz g L rest ∧ Only g w wz ∧ InsO Co.s L0 L k) (fun i _ => n + 1 - (intOf i).toNat)
  case atStart => exact ⟨1, L0, Nat.le_refl _, Or.inr rfl, rfl, HR.out, Only.refl _ _, insO_start _⟩
  case round =>
    obtain ⟨k, L, hk1, hk, rfl, hb, ho, hins⟩ := hrel
    have HBz := Lib.hid hb; have HOz := Lib.hid ho; have HIz := Lib.hid hins
    clear hb ho hins
    have HLn := Lib.hid (show L.length = n by rw [HIz.out.1.length_eq, HL.out])
    by_cases hlt : k < n
    · go_wp2
      go_loopw [7] (fun i wz' => ∃ (j : Nat) (L' : List Co), i = .int .i64 j ∧ Row wz' g L' rest ∧ Only g w wz' ∧ InsI Co.s L0 L' k j) (fun i _ => (intOf i).toNat)
      case atStart => exact ⟨k, L, rfl, HBz.out, HOz.out, insO_in HIz.out (by rw [HLn.out]; exact hlt)⟩
      case round =>
        obtain ⟨j, L', rfl, hb, ho, hins⟩ := hrel
        have HBy := Lib.hid hb; have HOy := Lib.hid ho; have HIy := Lib.hid hins
        clear hb ho hins HBz HOz HIz HLn
        have HLy := Lib.hid (show L'.length = n by rw [HIy.out.1.length_eq, HL.out])
        rcases j with _ | j
        · go_wp2
          go_roundw
          case rel => exact ⟨k + 1, L', by omega, by omega, by go_num, HBy.out, HOy.out, insI_out0 HIy.out⟩
          case measure => simp [intOf]; omega
        · have hjl : j + 1 < L'.length := by have := HIy.out.2.1; have := HIy.out.2.2.1; omega
          have hjm : j + 1 < n := by rw [← HLy.out]; exact hjl
          obtain ⟨r, hr⟩ : ∃ r, r = keyLt (Co.s L'[j + 1]) (Co.s L'[j]) := ⟨_, rfl⟩
          have HC := Lib.hid (show Calls Tryz.prog 433 #[.slice (some ⟨g, 0, none⟩) n c, .int .i64 ((j : Int) + 1), .int .i64 j] wr (RetQ (.bool r) wr) by
            rw [hr]; exact cLess g n c L' rest wr HBy.out HLy.out (j + 1) j hjm (by omega))
          have HS := Lib.hid hr; clear hr
          cases r
          · go_wp2_with (first | (go_at_call 433; refine HC.out.mono ?_; rintro e w' ⟨rfl, q, rfl⟩))
            go_roundw
            case rel => exact ⟨k + 1, L', by omega, by omega, by go_num, HBy.out.drewN _, HOy.out.drewN _, insI_out HIy.out hjl HS.out.symm⟩
            case measure => simp [intOf]; omega
          · go_wp2_with (first | (go_at_call 433; refine HC.out.mono ?_; rintro e w' ⟨rfl, q, rfl⟩) | (go_at_call 434; refine (cSwap g n c L' rest _ (HBy.out.drewN _) HLy.out j hjm).mono ?_; rintro e w' ⟨rfl, hrow, honly⟩; have R := Lib.hid (And.intro hrow honly); clear hrow honly))
            go_roundw
            case rel => exact ⟨j, swp L' j, rfl, R.out.1, (HOy.out.drewN _).trans' R.out.2, insI_swp HIy.out hjl HS.out.symm⟩
            case measure => simp [intOf]
    · go_wp2
      go_end0
      obtain ⟨hP, hS⟩ := insO_end HIz.out (by rw [HLn.out]; omega)
      exact ⟨rfl, L, HBz.out, HOz.out, hP, hS⟩
end Go.Proofs.YtfafiahefjimdaaGreatDoor

namespace Go.Proofs.YtfafiahefjimdaaGreatDoor
open Go Go.RowKit

/-- Coins in order. -/
def InOrd (L : List Co) : Prop := ∀ p q, (hq : q < L.length) → (h : p < q) → keyLt (Co.s L[q]) (Co.s L[p]) = false
theorem inOrd_of {L : List Co} (h : L.Pairwise fun a b => keyLt (Co.s a) (Co.s b) = true) : InOrd L := fun p q hq hpq => keyLt_asymm (List.pairwise_iff_getElem.1 h p q (by omega) hq hpq)
/-- Two numbers handed back; the world has drawn. -/
def RetAB (a b : Nat) (w : World) (e : Ending) (w' : World) : Prop := e = .returned (.tuple #[.int .i64 a, .int .i64 b]) ∧ ∃ q, w' = w.drewN q

set_option maxRecDepth 100000 in
set_option maxHeartbeats 2000000 in
theorem order2 (g n c : Nat) (L : List Co) (rest : List Value) (w : World) (h : Row w g L rest) (hl : L.length = n) (hO : InOrd L) (a b : Nat) (hab : a < b) (hb : b < n) (p : Value) :
    Calls Tryz.prog 395 #[.iface 161 (.slice (some ⟨g, 0, none⟩) n c), .int .i64 a, .int .i64 b, p] w (RetAB a b w) := by
  have HC := Lib.hid (show Calls Tryz.prog 433 #[.slice (some ⟨g, 0, none⟩) n c, .int .i64 b, .int .i64 a] w (RetQ (.bool false) w) by
    have := cLess g n c L rest w h hl b a hb (by omega)
    rwa [hO a b (by omega) hab] at this)
  clear h hO
  go_enter Tryz.func395, Tryz.ntmps395
  go_wp2_with (first | (go_at_call 433; refine HC.out.mono ?_; rintro e w' ⟨rfl, q, rfl⟩))
  go_ret2
  exact ⟨rfl, q, rfl⟩

set_option maxRecDepth 100000 in
set_option maxHeartbeats 2000000 in
theorem median (g n c : Nat) (L : List Co) (rest : List Value) (w : World) (h : Row w g L rest) (hl : L.length = n) (hO : InOrd L) (x y z : Nat) (hxy : x < y) (hyz : y < z) (hz : z < n) (p : Value) :
    Calls Tryz.prog 381 #[.iface 161 (.slice (some ⟨g, 0, none⟩) n c), .int .i64 x, .int .i64 y, .int .i64 z, p] w (RetQ (.int .i64 y) w) := by
  have hd : ∀ (u v : Nat), u < v → v < n → ∀ k, Calls Tryz.prog 395 #[.iface 161 (.slice (some ⟨g, 0, none⟩) n c), .int .i64 u, .int .i64 v, p] (w.drewN k) (RetAB u v w) := by
    intro u v huv hv k
    refine (order2 g n c L rest _ (h.drewN k) hl hO u v huv hv p).mono ?_
    rintro e w' ⟨rfl, q, rfl⟩
    exact ⟨rfl, dr2 _ _ _⟩
  have H0 := Lib.hid (order2 g n c L rest w h hl hO x y hxy (by omega) p)
  have H1 := Lib.hid (hd x y hxy (by omega))
  have H2 := Lib.hid (hd y z hyz hz)
  clear h hO hd
  go_enter Tryz.func381, Tryz.ntmps381
  go_wp2_with (first | (go_at_call 395; (with_reducible refine H0.out.mono ?_); rintro e w' ⟨rfl, q, rfl⟩) | (go_at_call 395; (with_reducible refine (H1.out _).mono ?_); rintro e w' ⟨rfl, q, rfl⟩) | (go_at_call 395; (with_reducible refine (H2.out _).mono ?_); rintro e w' ⟨rfl, q, rfl⟩))
  go_ret
  exact ⟨rfl, _, rfl⟩

theorem Row.ext {w w' : World} {g : Nat} {L : List Co} {rest : List Value} (h : Row w g L rest) (e : Ext w w') : Row w' g L rest := Blk.ext h e

set_option maxRecDepth 100000 in
set_option maxHeartbeats 2000000 in
theorem choosePivot (g n c : Nat) (L : List Co) (rest : List Value) (w : World) (h : Row w g L rest) (hl : L.length = n) (hO : InOrd L) (h12 : 12 < n) (h50 : n < 50) :
    Calls Tryz.prog 358 #[.iface 161 (.slice (some ⟨g, 0, none⟩) n c), .int .i64 0, .int .i64 n] w
      fun e w' => ∃ k : Nat, e = .returned (.tuple #[.int .i64 k, .int .i64 1]) ∧ Ext w w' := by
  have hq : ((n : Int)).tdiv 4 = ((n / 4 : Nat) : Int) := by rw [Int.tdiv_eq_ediv_of_nonneg (by omega)]; rfl
  obtain ⟨m, hm⟩ : ∃ m, m = n / 4 := ⟨_, rfl⟩
  rw [← hm] at hq
  have hm1 : 3 ≤ m := by omega
  have hm2 : m * 3 < n := by omega
  have hm3 : m ≤ 12 := by omega
  have H1 := Lib.hid (fun W (hW : Row W g L rest) p => median g n c L rest W hW hl hO m (m * 2) (m * 3) (by omega) (by omega) hm2 p)
  have HR := Lib.hid h
  have d8 : decide ((8 : Int) ≤ (n : Int)) = true := by simp; omega
  have d50 : decide ((50 : Int) ≤ (n : Int)) = false := by simp; omega
  clear h hO hm
  go_enter Tryz.func358, Tryz.ntmps358
  go_wp2_with (first | (go_at_call 381; refine (H1.out _ (HR.out.ext (Ext.alloc' _ _)) _).mono ?_; rintro e w' ⟨rfl, q, rfl⟩))
  go_ret2
  exact ⟨_, rfl, ((Ext.alloc' w _).trans' (Ext.drewN' _ _))⟩
set_option maxRecDepth 100000 in
set_option maxHeartbeats 2000000 in
theorem partialIns (g n c : Nat) (L : List Co) (rest : List Value) (w : World) (h : Row w g L rest) (hl : L.length = n) (hO : InOrd L) (h12 : 12 < n) (hn : n ≤ 1000000) :
    Calls Tryz.prog 360 #[.iface 161 (.slice (some ⟨g, 0, none⟩) n c), .int .i64 0, .int .i64 n] w (RetQ (.bool true) w) := by
  have HC := Lib.hid (fun (j k : Nat) (hj : j + 1 < n) => show Calls Tryz.prog 433 #[.slice (some ⟨g, 0, none⟩) n c, .int .i64 ((j : Int) + 1), .int .i64 j] (w.drewN k) (RetQ (.bool false) w) by
    have := cLess g n c L rest (w.drewN k) (h.drewN k) hl (j + 1) j hj (by omega)
    rw [hO j (j + 1) (by omega) (by omega)] at this
    refine Calls.mono this ?_
    rintro e w' ⟨rfl, q, rfl⟩
    exact ⟨rfl, dr2 _ _ _⟩)
  clear h hO
  go_enter Tryz.func360, Tryz.ntmps360
  go_wp2
  go_loopw [7, 8] (fun i j wz => i = .int .i64 1 ∧ j = .int .i64 0 ∧ w = wz) (fun _ _ _ => 0)
  case atStart => exact ⟨rfl, rfl, rfl⟩
  case round =>
    obtain ⟨rfl, rfl, rfl⟩ := hrel
    go_wp2
    go_loopw [7] (fun i wz => ∃ (j q : Nat), j + 1 ≤ n ∧ i = .int .i64 ((j : Int) + 1) ∧ wz = w.drewN q) (fun i _ => n - (intOf i).toNat)
    case atStart => exact ⟨0, 0, by omega, rfl, rfl⟩
    case round =>
      obtain ⟨j, q, hj, rfl, rfl⟩ := hrel
      by_cases hlt : j + 1 < n
      · have b1 : (j : Int) + 1 < (n : Int) := by omega
        have HC1 := Lib.hid (HC.out j q hlt)
        go_wp2_with (first | (go_at_call 433; (with_reducible refine HC1.out.mono ?_); rintro e w' ⟨rfl, q2, rfl⟩))
        go_roundw
        case rel => exact ⟨j + 1, q2, by omega, by go_num, rfl⟩
        case measure => simp [intOf]; omega
      · obtain rfl : j + 1 = n := by omega
        go_wp2
        go_ret
        exact ⟨rfl, _, rfl⟩

/-- Sorted coins of the same block, in w'. -/
def RetSort (g : Nat) (L0 : List Co) (rest : List Value) (w : World) (r : Value) (e : Ending) (w' : World) : Prop :=
  e = .returned r ∧ ∃ L, Row w' g L rest ∧ Only g w w' ∧ L.Perm L0 ∧ L.Pairwise fun a b => le (Co.s a) (Co.s b)

set_option maxRecDepth 100000 in
set_option maxHeartbeats 2000000 in
theorem pdqSmall (g n c lim : Nat) (L : List Co) (rest : List Value) (w : World) (h : Row w g L rest) (hl : L.length = n) (h12 : n ≤ 12) :
    Calls Tryz.prog 327 #[.iface 161 (.slice (some ⟨g, 0, none⟩) n c), .int .i64 0, .int .i64 n, .int .i64 lim] w (RetSort g L rest w (.tuple #[])) := by
  have H := Lib.hid (insSort g n c L rest w h hl (by omega))
  clear h
  have d12 : decide ((n : Int) ≤ 12) = true := by simp; omega
  go_enter Tryz.func327, Tryz.ntmps327
  go_wp2
  go_loopw [1, 2, 3, 8, 9] (fun a b l x y wz => a = .int .i64 0 ∧ b = .int .i64 n ∧ l = .int .i64 lim ∧ x = .bool true ∧ y = .bool true ∧ w = wz) (fun _ _ _ _ _ _ => 0)
  case atStart => exact ⟨rfl, rfl, rfl, rfl, rfl, rfl⟩
  case round =>
    obtain ⟨rfl, rfl, rfl, rfl, rfl, rfl⟩ := hrel
    go_wp2_with (first | (go_at_call 355; (with_reducible refine H.out.mono ?_); rintro e w' ⟨rfl, hh⟩; have H2 := Lib.hid hh; clear hh))
    go_end0
    exact ⟨rfl, H2.out⟩

set_option maxRecDepth 100000 in
set_option maxHeartbeats 2000000 in
theorem pdqOrd (g n c lim : Nat) (L : List Co) (rest : List Value) (w : World) (h : Row w g L rest) (hl : L.length = n) (hO : InOrd L) (h12 : 12 < n) (h50 : n < 50) (hlim : lim ≠ 0) :
    Calls Tryz.prog 327 #[.iface 161 (.slice (some ⟨g, 0, none⟩) n c), .int .i64 0, .int .i64 n, .int .i64 lim] w (RetSort g L rest w (.tuple #[])) := by
  have H1 := Lib.hid (choosePivot g n c L rest w h hl hO h12 h50)
  have H2 := Lib.hid (fun W (hW : Row W g L rest) => partialIns g n c L rest W hW hl hO h12 (by omega))
  have HR := Lib.hid h
  have HO := Lib.hid (show L.Pairwise fun a b => le (Co.s a) (Co.s b) from List.pairwise_iff_getElem.2 fun p q _ hq hpq => hO p q hq hpq)
  clear h hO
  have d12 : decide ((n : Int) ≤ 12) = false := by simp; omega
  have dl : ((lim : Int) == 0) = false := by simp; omega
  go_enter Tryz.func327, Tryz.ntmps327
  go_wp2
  go_loopw [1, 2, 3, 8, 9] (fun a b l x y wz => a = .int .i64 0 ∧ b = .int .i64 n ∧ l = .int .i64 lim ∧ x = .bool true ∧ y = .bool true ∧ w = wz) (fun _ _ _ _ _ _ => 0)
  case atStart => exact ⟨rfl, rfl, rfl, rfl, rfl, rfl⟩
  case round =>
    obtain ⟨rfl, rfl, rfl, rfl, rfl, rfl⟩ := hrel
    go_wp2_with (first | (go_at_call 358; (with_reducible refine H1.out.mono ?_); rintro e w' ⟨k, rfl, hh⟩; have HE := Lib.hid hh; clear hh) | (go_at_call 360; refine (H2.out _ (HR.out.ext HE.out)).mono ?_; rintro e w2 ⟨rfl, q, rfl⟩))
    go_end0
    exact ⟨rfl, L, (HR.out.ext HE.out).drewN _, (Only.of_ext HE.out).drewN _, List.Perm.refl _, HO.out⟩

theorem pdq (g n c lim : Nat) (L : List Co) (rest : List Value) (w : World) (h : Row w g L rest) (hl : L.length = n) (hO : n ≤ 12 ∨ n < 50 ∧ InOrd L) (hlim : lim ≠ 0) :
    Calls Tryz.prog 327 #[.iface 161 (.slice (some ⟨g, 0, none⟩) n c), .int .i64 0, .int .i64 n, .int .i64 lim] w (RetSort g L rest w (.tuple #[])) := by
  by_cases h12 : n ≤ 12
  · exact pdqSmall g n c lim L rest w h hl h12
  · rcases hO with hO | ⟨h50, hO⟩
    · exact absurd hO h12
    · exact pdqOrd g n c lim L rest w h hl hO (by omega) h50 hlim

theorem bitLen_pos : ∀ n : Fin 64, 1 ≤ n.val → Lib.bitLen n.val ≠ 0 := by decide +kernel

set_option maxRecDepth 100000 in
set_option maxHeartbeats 2000000 in
theorem sortSort (g n c : Nat) (L : List Co) (rest : List Value) (w : World) (h : Row w g L rest) (hl : L.length = n) (hO : n ≤ 12 ∨ n < 50 ∧ InOrd L) (h2 : 2 ≤ n) :
    Calls Tryz.prog 293 #[.iface 161 (.slice (some ⟨g, 0, none⟩) n c)] w (RetSort g L rest w (.tuple #[])) := by
  have H := Lib.hid (pdq g n c (Lib.bitLen n) L rest w h hl hO (bitLen_pos ⟨n, by omega⟩ (by show 1 ≤ n; omega)))
  have HB := Lib.hid (show Calls Tryz.prog 326 #[.int .u64 n] w fun e w' => e = .returned (.int .i64 (Lib.bitLen n)) ∧ w' = w by
    have := bLen (n : Int) w (by omega) (by omega); simpa using this)
  have d1 : decide ((n : Int) ≤ 1) = false := by simp; omega
  have hwr : IntKind.u64.wrap (n : Int) = (n : Int) := by rw [IntKind.wrap_u64]; omega
  clear h hO
  go_enter Tryz.func293, Tryz.ntmps293
  go_wp2_with (first | (go_at_call 432; refine (cLen _ n c _).mono ?_; rintro e w' ⟨rfl, rfl⟩) | (go_at_call 326; (with_reducible refine HB.out.mono ?_); rintro e w' ⟨rfl, rfl⟩) | (go_at_call 327; (with_reducible refine H.out.mono ?_); rintro e w' ⟨rfl, hh⟩; have H2 := Lib.hid hh; clear hh))
  go_end0
  exact ⟨rfl, H2.out⟩

set_option maxRecDepth 100000 in
set_option maxHeartbeats 2000000 in
/-- Coins.Sort of a row of the call's own. -/
theorem tSort (g n c : Nat) (L : List Co) (rest : List Value) (w : World) (h : Row w g L rest) (hl : L.length = n) (hO : n ≤ 12 ∨ n < 50 ∧ InOrd L) :
    Calls Tryz.prog 252 #[.slice (some ⟨g, 0, none⟩) n c] w (RetSort g L rest w (.slice (some ⟨g, 0, none⟩) n c)) := by
  by_cases h2 : 2 ≤ n
  · have H := Lib.hid (sortSort g n c L rest w h hl hO h2)
    have d1 : decide ((1 : Int) < (n : Int)) = true := by simp; omega
    clear h hO
    go_enter Tryz.func252, Tryz.ntmps252
    go_wp2_with (first | (go_at_call 293; (with_reducible refine H.out.mono ?_); rintro e w' ⟨rfl, hh⟩; have H2 := Lib.hid hh; clear hh))
    go_ret
    exact ⟨rfl, H2.out⟩
  · have HR := Lib.hid h
    have HP := Lib.hid (show L.Pairwise fun a b => le (Co.s a) (Co.s b) from List.pairwise_iff_getElem.2 fun p q _ hq hpq => by omega)
    have d1 : decide ((1 : Int) < (n : Int)) = false := by simp; omega
    clear h hO
    go_enter Tryz.func252, Tryz.ntmps252
    go_wp2
    go_ret
    exact ⟨rfl, L, HR.out, Only.refl _ _, List.Perm.refl _, HP.out⟩
end Go.Proofs.YtfafiahefjimdaaGreatDoor

namespace Go.Proofs.YtfafiahefjimdaaGreatDoor
open Go Go.RowKit Go.Maps

/-- A key of a map of strings. -/
def lk (s : ByteArray) : Lit := .string s.data.toList
theorem lk_inj {s t : ByteArray} (h : lk s = lk t) : s = t := by
  unfold lk at h; injection h with h
  exact ByteArray.ext (Array.ext' h)
theorem keyOf_str {P : Program} {k : TypeId} (hk : P.underlying k = some .string) {s : ByteArray} (hs : s.size ≤ maxLen) : keyOf P k (.string s) = some (lk s) := by
  simp [keyOf, hk, mapKey, hs, lk]
theorem keyOf_str_inv {P : Program} {k : TypeId} (hk : P.underlying k = some .string) {v : Value} {kl : Lit} (h : keyOf P k v = some kl) : ∃ s : ByteArray, v = .string s ∧ kl = lk s := by
  cases v <;> simp [keyOf, hk, mapKey] at h
  exact ⟨_, rfl, h.2.symm⟩
/-- A map's element, as it is. -/
def asIs (v : Value) : Option (DataW Value × List MemPlace) := some (.held v, [])

theorem infoStr : (Tryz.prog.info? 9).map (fun i => (i.zero, i.size, i.bytes)) = some (some (.string ByteArray.empty), 1, 16) := by kernel_rfl
/-- Keys handed back. -/
def RetKeys (D : DataW Value) (w : World) (e : Ending) (w' : World) : Prop :=
  ∃ (v : Value) (ks : List ByteArray), e = .returned v ∧ w'.ownsRow w.heap.size 9 1 v ks.length (ks.map Value.string) ∧ Ext w w' ∧ (∀ s, s ∈ ks ↔ has D (lk s) = true) ∧ ks.Pairwise (fun a b => keyLt a b = true)

theorem strict_of {L : List ByteArray} (h : L.Pairwise fun a b => le a b) (hn : L.Nodup) : L.Pairwise fun a b => keyLt a b = true :=
  (List.pairwise_and_iff.2 ⟨h, hn⟩).imp fun {a b} hh => by
    obtain ⟨h1, h2⟩ := hh
    cases e : keyLt a b
    · exact absurd (keyLt_tri e h1) h2
    · rfl

theorem keysK : Keyed Tryz.prog 9 := string_keyed Tryz.underlying9

theorem row_low {w : World} {base base' : Nat} {E : TypeId} {k n : Nat} {v : Value} {xs : List Value} (h : w.ownsRow base E k v n xs) (hb : base' ≤ base) : w.ownsRow base' E k v n xs := by
  refine ⟨h.1, ?_⟩
  rcases h.2 with h | ⟨g, cap, cur, e, hg, r⟩
  · exact Or.inl h
  · exact Or.inr ⟨g, cap, cur, e, by omega, r⟩
/-- The cells of a row of strings. -/
theorem str_cell {w : World} {g : Nat} {L : List ByteArray} {rest : List Value} (h : Blk w g 9 (L.map Value.string ++ rest)) (j : Nat) (hj : j < L.length) : w.cell? ⟨g, j, none⟩ = some (.string L[j]) := by
  rw [h.cell j, List.getElem?_append_left (by simpa using hj)]; simp [hj]
theorem str_swp {w : World} {g : Nat} {L : List ByteArray} {rest : List Value} (h : Blk w g 9 (L.map Value.string ++ rest)) (j : Nat) (hj : j + 1 < L.length) :
    Blk ((w.setCell ⟨g, j + 1, none⟩ (.string L[j])).setCell ⟨g, j, none⟩ (.string L[j + 1])) g 9 ((swp L j).map Value.string ++ rest) := by
  have := (h.set_ (j + 1) (.string L[j])).set_ j (.string L[j + 1])
  rw [swp_map, swp_set _ _ (by simpa using hj)]
  simpa [List.set_append, show j + 1 < L.length from hj, show j < L.length by omega] using this

set_option maxRecDepth 100000 in
set_option maxHeartbeats 1000000 in
theorem zKeys (b n : Nat) (D : DataW Value) (w : World) (h : w.ownsMap Tryz.prog 9 asIs b n D) (hD : size D ≤ 1000000) :
    Calls Tryz.prog 250 #[.map (some b)] w (RetKeys D w) := by
  obtain ⟨i0, hi, hz0, hz1, hz2⟩ := info_parts infoStr
  have hbl := h.lt
  have HM := Lib.hid h; clear h
  go_enter Tryz.func250, Tryz.ntmps250
  go_wp2_with (first | (at_range; refine wpList_range_own _ rfl _ 272 rfl 9 161 keysK Tryz.underlying272 _ b n _ rfl HM.out ?_; intro w0 hrg0 hg0 hs0; have R0 := Lib.hid (And.intro hrg0 hg0); clear hrg0 hg0))
  go_frame
  go_loopw [3] (fun v wr => ∃ (left : Lit → Bool) (cnt : Nat) (ks : List ByteArray), wr.ranges Tryz.prog 9 asIs b w.heap.size n D left cnt ∧ ks.length + cnt ≤ size D ∧ wr.ownsRow (w.heap.size + 1) 9 1 v ks.length (ks.map Value.string) ∧ Ext w wr ∧
      (∀ s, s ∈ ks ↔ (has D (lk s) = true ∧ left (lk s) = false)) ∧ ks.Nodup ∧ w.heap.size + 1 ≤ wr.heap.size)
    (fun _ wr => wr.rangeLeft b w.heap.size)
  case atStart =>
    exact ⟨_, _, [], R0.out.1, by simp, World.ownsRow_nil _ _ _ _, ⟨R0.out.2.os, R0.out.2.tape, R0.out.2.output, R0.out.2.size, fun i hi => R0.out.2.block i hi (by simp)⟩, fun s => by simp, List.nodup_nil, by omega⟩
  case round =>
    obtain ⟨left, cnt, ks, hrg, hcs, hown, hE, hks, hnd, hsz⟩ := hrel
    have HR := Lib.hid hrg; have HO := Lib.hid hown; have HE := Lib.hid hE; have HK := Lib.hid hks; have HN := Lib.hid hnd
    clear hrg hown hE hks hnd R0
    go_wp2_with (first
      | (at_next; refine wpList_next_ranges _ rfl _ rfl 9 keysK asIs (α := ByteArray) (β := Value) Value.string id (fun key kl hk => by obtain ⟨s, rfl, _⟩ := keyOf_str_inv Tryz.underlying9 hk; exact ⟨s, rfl⟩) (fun v y _ => ⟨v, rfl⟩) b w.heap.size n _ _ _ rfl HR.out ?_ ?_)
      | go_in)
    · intro hc0 hl0
      have hlen : ks.length ≤ 1000000 := by omega
      have HKs := Lib.hid (show ∀ s, s ∈ ks ↔ has D (lk s) = true from fun s => (HK.out s).trans ⟨fun h => h.1, fun h => ⟨h, hl0 _⟩⟩)
      clear HK hl0 hc0 hcs HR
      rcases HO.out.2 with ⟨hv, hn0⟩ | ⟨g, cap, cur, hv, hbg, hgb, hnc, hcm, hcs, hct⟩
      · obtain rfl : ks = [] := List.length_eq_zero_iff.1 hn0
        subst hv
        go_wp2
        go_loopw [5] (fun i wz => i = .int .i64 1 ∧ wz = wr) (fun _ _ => 0)
        case atStart => exact ⟨rfl, rfl⟩
        case round =>
          obtain ⟨rfl, rfl⟩ := hrel
          go_wp2
          go_ret
          exact ⟨_, [], rfl, World.ownsRow_nil _ _ _ _, HE.out, HKs.out, List.Pairwise.nil⟩
      · obtain ⟨m, hm⟩ : ∃ m, m = ks.length := ⟨_, rfl⟩
        have HB := Lib.hid (show Blk wr g 9 (ks.map Value.string ++ cur.toList.drop m) by
          have e : cur.toList = ks.map Value.string ++ cur.toList.drop m := by
            conv => lhs; rw [← List.take_append_drop m cur.toList]
            rw [← hct, ← hm]; simp
          unfold Blk; rw [← e]; simpa using hgb)
        obtain ⟨rest, hrest⟩ : ∃ rest, rest = cur.toList.drop m := ⟨_, rfl⟩
        rw [← hrest] at HB
        have HREST := Lib.hid (show rest.length + m = cap by rw [hrest]; simp; have := hcs; omega)
        rw [← hm] at hv hlen hnc
        have HM2 := Lib.hid hm
        obtain ⟨W1, rfl⟩ : ∃ W1, W1 = wr := ⟨_, rfl⟩
        clear hgb hcs hct hrest hm HO
        subst hv
        go_wp2
        go_loopw [5] (fun i wz => ∃ (k : Nat) (L : List ByteArray), 1 ≤ k ∧ (k ≤ m ∨ k = 1) ∧ i = .int .i64 k ∧ Blk wz g 9 (L.map Value.string ++ rest) ∧ Only g W1 wz ∧ InsO id ks L k) (fun i _ => m + 1 - (intOf i).toNat)
        case atStart => exact ⟨1, ks, Nat.le_refl _, Or.inr rfl, rfl, HB.out, Only.refl _ _, insO_start _⟩
        case round =>
          obtain ⟨k, L, hk1, hk, rfl, hb, ho, hins⟩ := hrel
          have HBz := Lib.hid hb; have HOz := Lib.hid ho; have HIz := Lib.hid hins
          clear hb ho hins
          have HLn := Lib.hid (show L.length = m by rw [HIz.out.1.length_eq, HM2.out])
          by_cases hlt : k < m
          · go_wp2
            go_loopw [6] (fun i wz' => ∃ (j : Nat) (L' : List ByteArray), i = .int .i64 j ∧ Blk wz' g 9 (L'.map Value.string ++ rest) ∧ Only g W1 wz' ∧ InsI id ks L' k j) (fun i _ => (intOf i).toNat)
            case atStart => exact ⟨k, L, rfl, HBz.out, HOz.out, insO_in HIz.out (by rw [HLn.out]; exact hlt)⟩
            case round =>
              obtain ⟨j, L', rfl, hb, ho, hins⟩ := hrel
              have HBy := Lib.hid hb; have HOy := Lib.hid ho; have HIy := Lib.hid hins
              clear hb ho hins HBz HOz HIz HLn
              have HLy := Lib.hid (show L'.length = m by rw [HIy.out.1.length_eq, HM2.out])
              rcases j with _ | j
              · go_wp2
                go_quiet (fail)
                go_wp2
                go_roundw
                case rel => exact ⟨k + 1, L', by omega, by omega, by go_num, HBy.out, HOy.out.drewN _, insI_out0 HIy.out⟩
                case measure => simp [intOf]; omega
              · have hjl : j + 1 < L'.length := by have := HIy.out.2.1; have := HIy.out.2.2.1; omega
                have hjm : j + 1 < m := by rw [← HLy.out]; exact hjl
                obtain ⟨s, hs⟩ : ∃ s, s = L'[j] := ⟨_, rfl⟩
                obtain ⟨t, ht⟩ : ∃ t, t = L'[j + 1] := ⟨_, rfl⟩
                have c0 : wr.cell? ⟨g, j, none⟩ = some (.string s) := by rw [hs]; exact str_cell HBy.out j (by omega)
                have c1 : wr.cell? ⟨g, j + 1, none⟩ = some (.string t) := by rw [ht]; exact str_cell HBy.out (j + 1) hjl
                have f0 : wr.frozen? ⟨g, j, none⟩ = false := HBy.out.frozen _
                have f1 : wr.frozen? ⟨g, j + 1, none⟩ = false := HBy.out.frozen _
                have HS := Lib.hid hs; have HT := Lib.hid ht; clear hs ht
                have b0 : (0 : Int) ≤ (j : Int) := by omega
                have b1 : (j : Int) < (m : Int) := by omega
                have b2 : (j : Int) + 1 < (m : Int) := by omega
                have b3 : (0 : Int) < (j : Int) + 1 := by omega
                by_cases hgt : keyLt t s = true
                · have HG := Lib.hid hgt
                  have g1 : Op.bytesLess t.toList s.toList = true := hgt
                  clear hgt
                  go_wp2
                  go_quiet (fail)
                  go_wp2
                  go_region
                  all_goals go_wp2
                  go_roundw
                  case rel =>
                    refine ⟨j, swp L' j, rfl, ?_, ?_, insI_swp HIy.out hjl (by show keyLt L'[j + 1] L'[j] = true; rw [← HS.out, ← HT.out]; exact HG.out)⟩
                    · rw [HS.out, HT.out]; exact str_swp (HBy.out.drewN _) j hjl
                    · exact ((HOy.out.drewN _).set_ _ _).set_ _ _
                  case measure => simp [intOf]
                · have hgt' : keyLt t s = false := by simpa using hgt
                  have HG := Lib.hid hgt'
                  have g1 : Op.bytesLess t.toList s.toList = false := hgt'
                  clear hgt hgt'
                  go_wp2
                  go_quiet (fail)
                  go_wp2
                  go_roundw
                  case rel => exact ⟨k + 1, L', by omega, by omega, by go_num, HBy.out, HOy.out.drewN _, insI_out HIy.out hjl (by show keyLt L'[j + 1] L'[j] = false; rw [← HS.out, ← HT.out]; exact HG.out)⟩
                  case measure => simp [intOf]; omega
          · go_wp2
            go_ret
            obtain ⟨hP, hS⟩ := insO_end HIz.out (by rw [HLn.out]; omega)
            refine ⟨.slice (some ⟨g, 0, none⟩) m cap, L, rfl, ⟨by simp, Or.inr ⟨g, cap, (L.map Value.string ++ rest).toArray, by rw [HLn.out], by omega, HBz.out, by rw [HLn.out]; omega, hcm, ?_, ?_⟩⟩, Only.ext HE.out HOz.out (by omega), fun s => (hP.mem_iff).trans (HKs.out s), strict_of hS (hP.nodup_iff.2 HN.out)⟩
            · have := HREST.out; have := HLn.out; simp; omega
            · simp
    · intro x c kl y ps w1 cnt1 hkey hlk hRv hat hrg1 hlt hg1 hs1 hen
      obtain ⟨s, hse, hkl⟩ := keyOf_str_inv Tryz.underlying9 hkey
      obtain rfl : x = s := by injection hse
      subst hkl
      have HR1 := Lib.hid hrg1; have HG1 := Lib.hid hg1
      have hlen : ks.length ≤ 1000000 := by omega
      have H1 := Lib.hid (World.ownsRow.kept HO.out hg1 (by rcases HO.out.2 with ⟨rfl, _⟩ | ⟨g, _, _, rfl, hg, _⟩; exact Or.inl rfl; exact Or.inr (by simp [Value.ownBlock]; omega)))
      have HLK := Lib.hid hlk
      have HHAS := Lib.hid (show has D (lk x) = true by
        cases e : has D (lk x)
        · have := hat (.held (.int .i64 1)); have h2 := hat (.held (.int .i64 2))
          rw [atKey_of_not_has e] at this h2; rw [← this] at h2; cases h2
        · rfl)
      clear hrg1 hg1 hkey hse hat hRv hlk
      have HS1 := Lib.hid hs1; clear hs1
      go_wp2_with (first | (at_builtin; refine wpList_append_own_at _ rfl (.tmp 13) (.tmp 15) 199 rfl (w.heap.size + 1) 9 i0 _ 1 16 Tryz.underlying199 hi hz0 hz1 hz2 rfl (by decide) u3 ks.length (ks.map Value.string) rfl (H1.out.alloc _) ⟨w1.heap.size, 0, none⟩ 1 1 [.string x] rfl rfl (cell_one_new _ _ _) (by simp [Value.oneCell']) (by unfold maxLen; omega) (by omega) (by have := HS1.out; simp; omega) ?_; intro v' w2 hown2 hgrow2 _ _; have R := Lib.hid (And.intro hown2 hgrow2); clear hown2 hgrow2))
      go_roundw
      case rel =>
        have hb1 : u3.ownBlock ≠ some b ∧ u3.ownBlock ≠ some w.heap.size := by
          rcases HO.out.2 with ⟨rfl, _⟩ | ⟨g, _, _, rfl, hg, _⟩
          · simp [Value.ownBlock]
          · simp [Value.ownBlock]; omega
        have hk2 := HR1.out.kept (World.grownBy.trans (World.grownBy_alloc w1 _ u3.ownBlock) R.out.2) (fun e => hb1.1 e.symm) (fun e => hb1.2 e.symm)
        have hE1 : Ext w (w1.alloc (.cells #[.string x] 9)) := (Only.ext HE.out HG1.out (Nat.le_refl _)).trans' (Ext.alloc' _ _)
        have hE2 : Ext w w2 := ext_grown hE1 (row_low (H1.out.alloc _) (Nat.le_succ _)) R.out.2
        refine ⟨_, cnt1, ks ++ [x], hk2, by simp; omega, ?_, hE2, ?_, ?_, ?_⟩
        · have := R.out.1; simpa using this
        · intro s
          rw [List.mem_append, HK.out s, List.mem_singleton]
          constructor
          · rintro (⟨h1, h2⟩ | rfl)
            · exact ⟨h1, by rw [h2]; rfl⟩
            · exact ⟨HHAS.out, by rw [WideAt.sameKey_self (show WideAt.IsKeyLit (lk s) from trivial)]; simp⟩
          · rintro ⟨h1, h2⟩
            by_cases e : s = x
            · exact Or.inr e
            · refine Or.inl ⟨h1, ?_⟩
              rw [sameKey_ne (fun h => e (lk_inj h))] at h2
              simpa using h2
        · rw [List.nodup_append]
          refine ⟨HN.out, by simp, fun a ha c hc e => ?_⟩
          rw [List.mem_singleton] at hc
          subst hc; subst e
          have := ((HK.out _).1 ha).2
          rw [HLK.out] at this; cases this
        · have := R.out.2.size; have := HS1.out; simp at *; omega
      case measure => rw [World.ranges.left_eq (HR1.out.kept (World.grownBy.trans (World.grownBy_alloc w1 _ u3.ownBlock) R.out.2) (by rcases HO.out.2 with ⟨rfl, _⟩ | ⟨g, _, _, rfl, hg, _⟩; simp [Value.ownBlock]; simp [Value.ownBlock]; omega) (by rcases HO.out.2 with ⟨rfl, _⟩ | ⟨g, _, _, rfl, hg, _⟩; simp [Value.ownBlock]; simp [Value.ownBlock]; omega)), HR.out.left_eq]; exact hlt
end Go.Proofs.YtfafiahefjimdaaGreatDoor

namespace Go.Proofs.YtfafiahefjimdaaGreatDoor
open Go Go.RowKit

set_option maxRecDepth 100000 in
set_option maxHeartbeats 400000 in
theorem tIsSorted (A : Option Addr) (n c : Nat) (l : List Co) (w : World) (hl : l.length = n) (hn : n ≤ 1000000) (h : RecAt w A (l.map Co.pair)) :
    Calls Tryz.prog 204 #[.slice A n c] w (RetQ (.bool (sortedB (l.map Co.s))) w) := by
  have HL := Lib.hid hl; have HP := Lib.hid h
  clear hl h
  go_enter Tryz.func204, Tryz.ntmps204
  go_wp2
  go_loopw [3] (fun i wr => ∃ (k q : Nat), (k ≤ n ∨ k = 1) ∧ 1 ≤ k ∧ i = .int .i64 k ∧ wr = w.drewN q ∧ ∀ j, (hj : j + 1 < l.length) → j + 1 < k → keyLt (Co.s l[j + 1]) (Co.s l[j]) = false) (fun i _ => n + 1 - (intOf i).toNat)
  case atStart => exact ⟨1, 0, Or.inr rfl, Nat.le_refl _, rfl, rfl, fun j _ h => by omega⟩
  case round =>
    obtain ⟨k, q, hk, hk1, rfl, rfl, hq⟩ := hrel
    have HQ := Lib.hid hq; clear hq
    by_cases hlt : k < n
    · obtain ⟨m, rfl⟩ : ∃ m, k = m + 1 := ⟨k - 1, by omega⟩
      have hkl : m + 1 < l.length := by rw [HL.out]; exact hlt
      obtain ⟨s, hs⟩ : ∃ s, s = Co.s l[m] := ⟨_, rfl⟩
      obtain ⟨t, ht⟩ : ∃ t, t = Co.s l[m + 1] := ⟨_, rfl⟩
      obtain ⟨g, o, hA, hc⟩ := HP.out (by intro e; have := congrArg List.length e; simp at this; rw [this] at hkl; simp at hkl)
      subst hA
      have cs0 : w.cell? ⟨g, o + m * 2, none⟩ = some (.string s) := by have := (hc m (by simp; omega)).1; rw [this, hs]; simp [Co.pair]
      have cs1 : w.cell? ⟨g, o + (m + 1) * 2, none⟩ = some (.string t) := by have := (hc (m + 1) (by simpa using hkl)).1; rw [this, ht]; simp [Co.pair]
      have HS := Lib.hid hs; have HT := Lib.hid ht; clear hs ht hc hk
      have b0 : (0 : Int) ≤ (m : Int) := by omega
      have b1 : (m : Int) < (n : Int) := by omega
      have b2 : (m : Int) + 1 < (n : Int) := by omega
      by_cases hgt : keyLt t s = true
      · have g1 : Op.bytesLess s.toList t.toList = false := keyLt_asymm hgt
        have g2 : (s.toList == t.toList) = false := by rw [key_beq]; simp; intro e; subst e; rw [keyLt_irrefl] at hgt; cases hgt
        have F := Lib.hid (show sortedB (l.map Co.s) = false from sortedB_false m (by simpa using hkl) (by simpa [← HS.out, ← HT.out] using hgt))
        clear hgt
        go_wp2
        go_quiet (fail)
        go_wp2
        go_ret
        rw [F.out]; exact ⟨rfl, by first | exact dr1 _ _ | exact dr2 _ _ _⟩
      · have hgt' : keyLt t s = false := by simpa using hgt
        have HG := Lib.hid hgt'
        clear hgt hgt'
        have hh : Op.bytesLess s.toList t.toList = true ∨ s = t := by
          cases e : Op.bytesLess s.toList t.toList
          · exact Or.inr (keyLt_tri e HG.out)
          · exact Or.inl rfl
        have HS' := HS; have HT' := HT
        rcases hh with hh | hh
        · go_wp2
          go_quiet (fail)
          go_wp2
          go_roundw
          case rel =>
            refine ⟨m + 1 + 1, _, by omega, by omega, by go_num, rfl, fun j hj hjk => ?_⟩
            by_cases e : j = m
            · subst e; rw [← HS'.out, ← HT'.out]; exact HG.out
            · exact HQ.out j hj (by omega)
          case measure => simp [intOf]; omega
        · subst hh
          go_wp2
          go_quiet (fail)
          go_wp2
          go_roundw
          case rel =>
            refine ⟨m + 1 + 1, _, by omega, by omega, by go_num, rfl, fun j hj hjk => ?_⟩
            by_cases e : j = m
            · subst e; rw [← HS'.out, ← HT'.out]; exact HG.out
            · exact HQ.out j hj (by omega)
          case measure => simp [intOf]; omega
    · have F := Lib.hid (show sortedB (l.map Co.s) = true from sortedB_true (fun j hj => by simp at hj; simpa using HQ.out j hj (by have := HL.out; omega)))
      go_wp2
      go_ret
      rw [F.out]; exact ⟨rfl, by first | exact dr1 _ _ | exact dr2 _ _ _⟩

set_option maxRecDepth 100000 in
theorem tSorted (A : Option Addr) (n c : Nat) (l : List Co) (w : World) (hl : l.length = n) (hn : n ≤ 1000000) (h : RecAt w A (l.map Co.pair)) :
    Calls Tryz.prog 161 #[.slice A n c] w (RetQ (.bool (sortedB (l.map Co.s))) w) := by
  have H := Lib.hid (tIsSorted A n c l w hl hn h); clear hl hn h
  go_enter Tryz.func161, Tryz.ntmps161
  go_wp2_with (go_at_call 204; refine H.out.mono ?_; rintro e w' ⟨rfl, q, rfl⟩)
  go_ret
  exact ⟨rfl, q, rfl⟩
end Go.Proofs.YtfafiahefjimdaaGreatDoor

namespace Go.Proofs.YtfafiahefjimdaaGreatDoor
open Go Go.RowKit Go.Maps

/-- The coins of one denomination. -/
def ofS (s : ByteArray) (l : List Co) : List Co := l.filter fun c => decide (c.s = s)
theorem ofS_append (s : ByteArray) (l m : List Co) : ofS s (l ++ m) = ofS s l ++ ofS s m := by simp [ofS]
theorem ofS_ne {s : ByteArray} {l : List Co} : ofS s l ≠ [] ↔ ∃ c ∈ l, c.s = s := by
  simp [ofS, List.filter_eq_nil_iff]
theorem ofS_one (s : ByteArray) (c : Co) : ofS s [c] = if c.s = s then [c] else [] := by
  by_cases h : c.s = s <;> simp [ofS, h]
theorem ofS_len (s : ByteArray) (l : List Co) : (ofS s l).length ≤ l.length := by unfold ofS; exact List.length_filter_le _ _
/-- A row of coins of the call's own. -/
def CoRow (w : World) (base : Nat) (v : Value) (l : List Co) : Prop := w.ownsRow base 152 2 v l.length (flat2 (l.map Co.pair))
/-- The coins done so far, by their denominations, in the map of block M; G: where they lie. -/
def Grp (wr : World) (M : Nat) (done : List Co) (G : ByteArray → Value) : Prop :=
  ∃ (D : DataW Value), wr.ownsMap Tryz.prog 9 asIs M done.length D ∧ (∀ s, has D (lk s) = true ↔ ofS s done ≠ []) ∧
    (∀ s, ofS s done ≠ [] → (∀ z, D.atKey (lk s) z = .held (G s)) ∧ CoRow wr (M + 2) (G s) (ofS s done)) ∧
    (∀ s t, ofS s done ≠ [] → ofS t done ≠ [] → s ≠ t → (G s).ownBlock ≠ (G t).ownBlock) ∧ M + 2 ≤ wr.heap.size
/-- What a look-up hands back. -/
def valAt (G : ByteArray → Value) (done : List Co) (s : ByteArray) : Value := if ofS s done = [] then .slice none 0 0 else G s

theorem zeroCoins (w : World) : (zeroValue 161).run Tryz.prog w = .ok (.slice none 0 0) w := by kernel_rfl
theorem ownsMap_of_block {w w' : World} {M n : Nat} {D : DataW Value} (h : w.ownsMap Tryz.prog 9 asIs M n D) (e : w'.heap[M]? = w.heap[M]?) : w'.ownsMap Tryz.prog 9 asIs M n D := by
  obtain ⟨es, clock, hb, r⟩ := h
  exact ⟨es, clock, e.trans hb, r⟩
theorem grp_row {wr : World} {M : Nat} {done : List Co} {G : ByteArray → Value} (h : Grp wr M done G) (s : ByteArray) : CoRow wr (M + 2) (valAt G done s) (ofS s done) := by
  obtain ⟨D, hM, hH, hR, hD, hsz⟩ := h
  unfold valAt
  by_cases e : ofS s done = []
  · rw [if_pos e, e]; exact World.ownsRow_nil _ _ _ _
  · rw [if_neg e]; exact (hR s e).2
set_option maxRecDepth 100000 in
theorem grp_run {wr : World} {M : Nat} {done : List Co} {G : ByteArray → Value} (h : Grp wr M done G) (s : ByteArray) (hs : s.size ≤ maxLen) (W : World) (hW : W.heap[M]? = wr.heap[M]?) :
    (Instr.lookup 272 (.map (some M)) (.string s) false).run Tryz.prog W = .ok (valAt G done s) W := by
  obtain ⟨D, hM, hH, hR, hD, hsz⟩ := h
  obtain ⟨v, ps, hr, hv⟩ := (ownsMap_of_block hM hW).lookup keysK Tryz.underlying272 (zeroCoins W) (show asIs (.slice none 0 0) = some (.held (.slice none 0 0), []) from rfl) (keyOf_str Tryz.underlying9 hs)
  rw [hr]
  unfold asIs at hv; injection hv with hv; injection hv with h1 _
  congr 1
  unfold valAt
  by_cases e : ofS s done = []
  · have hh : has D (lk s) = false := by
      cases k : has D (lk s)
      · rfl
      · exact absurd e ((hH s).1 k)
    rw [atKey_of_not_has hh] at h1
    rw [if_pos e]; injection h1
  · rw [(hR s e).1] at h1
    rw [if_neg e]; injection h1
/-- A row that was appended to, and the map's store behind it. -/
theorem grp_step {wr W1 W2 : World} {M : Nat} {done : List Co} {G : ByteArray → Value} (h : Grp wr M done G) (c : Co) (hs : c.s.size ≤ maxLen) (hd : done.length < 1000) (e : Ext wr W1) {g cap : Nat}
    (hown : W2.ownsRow (M + 2) 152 2 (.slice (some ⟨g, 0, none⟩) ((ofS c.s done).length + 1) cap) ((ofS c.s done).length + 1) (flat2 ((ofS c.s done).map Co.pair) ++ [.string c.s, .pointer (some ⟨c.b, 0, none⟩)]))
    (hg : W1.grownBy W2 (valAt G done c.s).ownBlock) (hb : (valAt G done c.s).ownBlock = some g ∨ g = W1.heap.size) :
    ∃ W3 G', (Instr.mapUpdate 272 (.map (some M)) (.string c.s) (.slice (some ⟨g, 0, none⟩) ((ofS c.s done).length + 1) cap)).run Tryz.prog W2 = .ok () W3 ∧ Grp W3 M (done ++ [c]) G' ∧
      (∀ i, i < M + 2 → i ≠ M → W3.heap[i]? = wr.heap[i]?) ∧ W3.os = wr.os ∧ W3.tape = wr.tape ∧ W3.output = wr.output ∧ wr.heap.size ≤ W3.heap.size ∧ W2.grownBy W3 (some M) := by
  have hrow := grp_row h c.s
  obtain ⟨D, hM, hH, hR, hD, hsz⟩ := h
  have hvb : ∀ i, (valAt G done c.s).ownBlock = some i → M + 2 ≤ i := by
    intro i hi
    rcases hrow.2 with ⟨hv, _⟩ | ⟨g', _, _, hv, hge, _⟩
    · rw [hv] at hi; simp [Value.ownBlock] at hi
    · rw [hv] at hi; simp [Value.ownBlock] at hi; omega
  have hM2 : W2.ownsMap Tryz.prog 9 asIs M done.length D := by
    refine ownsMap_of_block hM ?_
    rw [hg.block M (by have := e.size; omega) (fun k => by have := hvb M k.symm; omega), e.block M (by omega)]
  obtain ⟨W3, hrun, hM3, hg3⟩ := hM2.update keysK Tryz.underlying272 (by unfold maxLen; omega) (keyOf_str Tryz.underlying9 hs) (show asIs (.slice (some ⟨g, 0, none⟩) ((ofS c.s done).length + 1) cap) = some (.held (.slice (some ⟨g, 0, none⟩) ((ofS c.s done).length + 1) cap), []) from rfl)
  obtain ⟨G', hG1, hG2⟩ : ∃ G' : ByteArray → Value, G' c.s = .slice (some ⟨g, 0, none⟩) ((ofS c.s done).length + 1) cap ∧ ∀ t, t ≠ c.s → G' t = G t :=
    ⟨fun t => if t = c.s then .slice (some ⟨g, 0, none⟩) ((ofS c.s done).length + 1) cap else G t, if_pos rfl, fun t h => if_neg h⟩
  have hkey : WideAt.IsKeyLit (lk c.s) := trivial
  refine ⟨W3, G', hrun, ?_, ?_, ?_, ?_, ?_, ?_, hg3⟩
  · have hlt : ∀ t, ofS t done ≠ [] → ∀ i, (G t).ownBlock = some i → M + 2 ≤ i ∧ i < wr.heap.size := by
      intro t ht i hi
      rcases (hR t ht).2.2 with ⟨hv, _⟩ | ⟨g', _, _, hv, hge, hgb, _⟩
      · rw [hv] at hi; simp [Value.ownBlock] at hi
      · rw [hv] at hi; simp [Value.ownBlock] at hi; subst hi; exact ⟨hge, (Array.getElem?_eq_some_iff.1 hgb).1⟩
    have hgM : M + 2 ≤ g := by
      rcases hb with hb | hb
      · exact hvb g hb
      · have := e.size; omega
    have hgne : ∀ t, ofS t done ≠ [] → t ≠ c.s → (G t).ownBlock ≠ some g := by
      intro t ht hts k
      have h1 := hlt t ht g k
      rcases hb with hb | hb
      · by_cases e0 : ofS c.s done = []
        · unfold valAt at hb; rw [if_pos e0] at hb; simp [Value.ownBlock] at hb
        · unfold valAt at hb; rw [if_neg e0] at hb
          exact hD t c.s ht e0 hts (k.trans hb.symm)
      · have := e.size; omega
    have hold : ∀ t, t ≠ c.s → ofS t (done ++ [c]) = ofS t done := by
      intro t ht
      rw [ofS_append, ofS_one, if_neg (fun k => ht k.symm), List.append_nil]
    have hnew : ofS c.s (done ++ [c]) = ofS c.s done ++ [c] := by rw [ofS_append, ofS_one, if_pos rfl]
    refine ⟨D.put (lk c.s) (.held (.slice (some ⟨g, 0, none⟩) ((ofS c.s done).length + 1) cap)), by simpa using hM3, ?_, ?_, ?_, ?_⟩
    · intro s
      by_cases hsc : s = c.s
      · subst hsc; rw [hnew]
        exact ⟨fun _ => by simp, fun _ => has_put_same hM2.isMap hkey _⟩
      · rw [hold s hsc, has_put_other (fun k => hsc (lk_inj k))]; exact hH s
    · intro s hs'
      by_cases hsc : s = c.s
      · subst hsc
        refine ⟨fun z => by rw [hG1]; exact atKey_put_same hM2.isMap hkey _ _, ?_⟩
        rw [hG1, hnew]
        unfold CoRow
        rw [List.length_append, List.map_append, flat2_append]
        exact hown.kept hg3 (Or.inr (by simp [Value.ownBlock]; omega))
      · rw [hold s hsc] at hs' ⊢
        refine ⟨fun z => by rw [hG2 s hsc, atKey_put_other (fun k => hsc (lk_inj k))]; exact (hR s hs').1 z, ?_⟩
        rw [hG2 s hsc]
        have r1 := owns_ext (hR s hs').2 e
        have r2 := r1.kept hg (by
          by_cases e0 : ofS c.s done = []
          · have : (valAt G done c.s).ownBlock = none := by unfold valAt; rw [if_pos e0]; rfl
            rw [this]; exact (Classical.em ((G s).ownBlock = none))
          · have : valAt G done c.s = G c.s := by unfold valAt; rw [if_neg e0]
            rw [this]; exact Or.inr (hD s c.s hs' e0 hsc))
        exact r2.kept hg3 (Or.inr (fun k => by have := hlt s hs' M k; omega))
    · intro s t hs' ht' hst
      by_cases hsc : s = c.s
      · have htc : t ≠ c.s := fun k => hst (hsc.trans k.symm)
        rw [hold t htc] at ht'
        subst hsc
        rw [hG1, hG2 t htc]
        intro k; exact hgne t ht' htc k.symm
      · rw [hold s hsc] at hs'
        by_cases htc : t = c.s
        · subst htc; rw [hG2 s hsc, hG1]; exact hgne s hs' hsc
        · rw [hold t htc] at ht'
          rw [hG2 s hsc, hG2 t htc]; exact hD s t hs' ht' hst
    · exact Nat.le_trans hsz (Nat.le_trans e.size (Nat.le_trans hg.size hg3.size))
  · intro i hi hne
    rw [hg3.block i (by have := hg.size; have := e.size; omega) (fun k => hne (Option.some.inj k)), hg.block i (by have := e.size; omega) (fun k => by have := hvb i k.symm; omega), e.block i (by omega)]
  · exact hg3.os.trans (hg.os.trans e.os)
  · exact hg3.tape.trans (hg.tape.trans e.tape)
  · exact hg3.output.trans (hg.output.trans e.output)
  · exact Nat.le_trans e.size (Nat.le_trans hg.size hg3.size)
/-- All that the round's walk wants of the append and of the store. -/
theorem grp_arm {w wr W W2 : World} {done : List Co} {G : ByteArray → Value} (h : Grp wr w.heap.size done G) (hE : Ext w wr) (c : Co) (hs : c.s.size ≤ maxLen) (hd : done.length < 50) (e : Ext wr W) {kk g cap : Nat} (hkk : kk = (ofS c.s done).length)
    {v a0 a1 : Value} (hv : v = valAt G done c.s)
    (hown : W2.ownsRow (w.heap.size + 2) 152 2 (.slice (some ⟨g, 0, none⟩) (kk + 1) cap) (kk + 1) (flat2 ((ofS c.s done).map Co.pair) ++ [.string c.s, .pointer (some ⟨c.b, 0, none⟩)]))
    (hg : W.grownBy W2 v.ownBlock) (hb : v.ownBlock = some g ∨ g = W.heap.size) (s0 : W.cell? ⟨wr.heap.size, 0, none⟩ = some a0) (s1 : W.cell? ⟨wr.heap.size, 1, none⟩ = some a1) :
    (W2.cell? ⟨wr.heap.size, 0, none⟩ = some a0 ∧ W2.cell? ⟨wr.heap.size, 1, none⟩ = some a1) ∧
    ∃ W3 G3, (Instr.mapUpdate 272 (.map (some w.heap.size)) (.string c.s) (.slice (some ⟨g, 0, none⟩) (kk + 1) cap)).run Tryz.prog W2 = .ok () W3 ∧ Grp W3 w.heap.size (done ++ [c]) G3 ∧ Ext w W3 ∧
      W3.heap[w.heap.size + 1]? = wr.heap[w.heap.size + 1]? ∧ (W3.cell? ⟨wr.heap.size, 0, none⟩ = some a0 ∧ W3.cell? ⟨wr.heap.size, 1, none⟩ = some a1) := by
  subst hkk; subst hv
  have hrow := grp_row h c.s
  have hM : w.heap.size + 2 ≤ wr.heap.size := by obtain ⟨_, _, _, _, _, k⟩ := h; exact k
  have hne : (valAt G done c.s).ownBlock ≠ some wr.heap.size := by
    rcases hrow.2 with ⟨hv, _⟩ | ⟨g', _, _, hv, hge, hgb, _⟩
    · rw [hv]; simp [Value.ownBlock]
    · rw [hv]; simp [Value.ownBlock]
      have := (Array.getElem?_eq_some_iff.1 hgb).1; omega
  have t0 := (hg.cell_far ⟨wr.heap.size, 0, none⟩ (cell_lt s0) (fun k => hne k.symm)).trans s0
  have t1 := (hg.cell_far ⟨wr.heap.size, 1, none⟩ (cell_lt s1) (fun k => hne k.symm)).trans s1
  obtain ⟨W3, G3, h1, h2, h3, h4, h5, h6, h7, h8⟩ := grp_step h c hs (by omega) e hown hg hb
  refine ⟨⟨t0, t1⟩, W3, G3, h1, h2, ⟨h4.trans hE.os, h5.trans hE.tape, h6.trans hE.output, Nat.le_trans hE.size h7, fun i hi => (h3 i (by omega) (by omega)).trans (hE.block i hi)⟩, h3 _ (by omega) (by omega), ?_, ?_⟩
  · exact (h8.cell_far ⟨wr.heap.size, 0, none⟩ (cell_lt t0) (fun k => by have := Option.some.inj k; simp at this; omega)).trans t0
  · exact (h8.cell_far ⟨wr.heap.size, 1, none⟩ (cell_lt t1) (fun k => by have := Option.some.inj k; simp at this; omega)).trans t1
theorem grp_start (w : World) {W : World} (hM : W.heap[w.heap.size]? = some (.map #[] 0)) (hs : w.heap.size + 2 ≤ W.heap.size) (G : ByteArray → Value) : Grp W w.heap.size [] G :=
  ⟨.map [], ownsMap_of_block (w := w.alloc (.map #[] 0)) (World.ownsMap_made _ _ _ _) (by rw [hM, heap_alloc_new]), fun s => by simp [ofS, has], fun s h => absurd rfl h, fun s t h => absurd rfl h, hs⟩
end Go.Proofs.YtfafiahefjimdaaGreatDoor

namespace Go.Proofs.YtfafiahefjimdaaGreatDoor
open Go Go.RowKit Go.Maps

theorem makeMapN (x : Int) (W : World) : (Instr.makeMap 272 (some (.int .i64 x))).run Tryz.prog W = .ok (.map (some W.heap.size)) (W.alloc (.map #[] 0)) := by
  simp [Instr.makeMap, run_underlying Tryz.underlying272, asInt, asIntOf, Result.andThen]

theorem own_slice {w : World} {base n k : Nat} {E : TypeId} {v : Value} {xs : List Value} (h : w.ownsRow base E k v n xs) : ∃ A c, v = .slice A n c := by
  rcases h.2 with ⟨rfl, rfl⟩ | ⟨g, cap, _, rfl, _⟩
  · exact ⟨_, _, rfl⟩
  · exact ⟨_, _, rfl⟩
/-- Keys in a row. -/
def KeysAt (w : World) (A : Option Addr) (ks : List ByteArray) : Prop := ks ≠ [] → ∃ g, A = some ⟨g, 0, none⟩ ∧ ∀ j (h : j < ks.length), w.cell? ⟨g, j, none⟩ = some (.string ks[j])
theorem KeysAt.ext {w w' : World} {A : Option Addr} {ks : List ByteArray} (h : KeysAt w A ks) (e : Ext w w') : KeysAt w' A ks := fun hn => by
  obtain ⟨g, hA, hc⟩ := h hn
  exact ⟨g, hA, fun j hj => e.cell' (hc j hj)⟩
theorem keysAt_of {w : World} {base : Nat} {A : Option Addr} {c : Nat} {ks : List ByteArray} (h : w.ownsRow base 9 1 (.slice A ks.length c) ks.length (ks.map Value.string)) : KeysAt w A ks := fun hn => by
  rcases h.2 with ⟨_, h0⟩ | ⟨g, cap, cur, hv, _, hb, _, _, _, ht⟩
  · exact absurd (List.length_eq_zero_iff.1 h0) hn
  · injection hv with h1 _ _
    refine ⟨g, h1, fun j hj => ?_⟩
    have hk : Blk w g 9 cur.toList := by unfold Blk; simpa using hb
    rw [hk.cell j]
    have : (cur.toList.take (ks.length * 1))[j]? = (ks.map Value.string)[j]? := by rw [ht]
    rw [List.getElem?_take, if_pos (by omega)] at this
    rw [this]; simp [hj]
theorem size_of_owns {w : World} {M n : Nat} {D : DataW Value} (h : w.ownsMap Tryz.prog 9 asIs M n D) : size D ≤ n := by
  obtain ⟨es, clock, _, F, hs, rfl⟩ := h
  simp [size, length_sorted]; exact hs
/-- The sum of one denomination. -/
def total (s : ByteArray) (l : List Co) : Int := ((ofS s l).map Co.z).sum
/-- The sums that are not 0. -/
def coal (ks : List ByteArray) (l : List Co) : List (ByteArray × Int) := ks.filterMap fun s => if total s l = 0 then none else some (s, total s l)
theorem coal_snoc (ks : List ByteArray) (s : ByteArray) (l : List Co) : coal (ks ++ [s]) l = coal ks l ++ if total s l = 0 then [] else [(s, total s l)] := by
  unfold coal; rw [List.filterMap_append]; congr 1
  by_cases h : total s l = 0 <;> simp [h]
theorem coal_strict {ks : List ByteArray} (l : List Co) (h : ks.Pairwise fun a b => keyLt a b = true) : (coal ks l).Pairwise fun a b => keyLt a.1 b.1 = true := by
  unfold coal
  refine List.Pairwise.filterMap _ ?_ h
  intro a a' haa b hb b' hb'
  split at hb
  · cases hb
  · split at hb'
    · cases hb'
    · injection hb with hb; injection hb' with hb'
      subst hb; subst hb'; exact haa
theorem row_of_own {w : World} {g : Nat} {cur : Array Value} {cs : List Co} (hb : w.heap[g]? = some (.cells cur 152 (0, 0))) (ht : cur.toList.take (cs.length * 2) = flat2 (cs.map Co.pair)) : Row w g cs (cur.toList.drop (cs.length * 2)) := by
  unfold Row Blk
  rw [← ht, List.take_append_drop]
  simpa using hb
theorem sum_bound (l : List Co) (B : Nat) (h : ∀ x ∈ l, x.z.natAbs ≤ B) : ((l.map Co.z).sum).natAbs ≤ l.length * B := by
  induction l with
  | nil => simp
  | cons a t ih =>
    have h1 := h a (by simp)
    have h2 := ih (fun x hx => h x (by simp [hx]))
    simp only [List.map_cons, List.sum_cons, List.length_cons, Nat.add_mul, Nat.one_mul]
    omega
/-- Coins added: of each denomination the sum, in order; sums of nothing are left out. -/
def RetAdd (all : List Co) (w : World) (e : Ending) (w' : World) : Prop :=
  ∃ (v : Value) (cs : List Co) (ks : List ByteArray), e = .returned v ∧ CoinsOwn w' w.heap.size v cs ∧ Ext w w' ∧ cs.map Co.val = coal ks all ∧ ks.Pairwise (fun a b => keyLt a b = true) ∧ ∀ s, s ∈ ks ↔ ofS s all ≠ []
theorem two_keep (w : World) (s : ByteArray) (b : Nat) :
    ((w.alloc (.cells #[.string s, .pointer (some ⟨b, 0, none⟩)] 152)).alloc (.cells #[.string s, .pointer (some ⟨b, 0, none⟩)] 152)).drew.cell? ⟨w.heap.size, 0, none⟩ = some (.string s) ∧
    ((w.alloc (.cells #[.string s, .pointer (some ⟨b, 0, none⟩)] 152)).alloc (.cells #[.string s, .pointer (some ⟨b, 0, none⟩)] 152)).drew.cell? ⟨w.heap.size, 1, none⟩ = some (.pointer (some ⟨b, 0, none⟩)) :=
  ⟨cell_old _ (by rw [cell_new]; rfl), cell_old _ (by rw [cell_new]; rfl)⟩

set_option maxRecDepth 100000 in
set_option maxHeartbeats 4000000 in
theorem safeAdd (A B : Option Addr) (n c m d : Nat) (la lb : List Co) (w : World) (hla : la.length = n) (hlb : lb.length = m) (hn : n + m < 50) (hA : CoinsAt w A la) (hB : CoinsAt w B lb)
    (hsz : ∀ x ∈ la ++ lb, x.s.size ≤ maxLen) (hzb : ∀ x ∈ la ++ lb, x.z.natAbs ≤ 1125899906842624)
    (hsa : sortedB (la.map Co.s) = true) (hsb : sortedB (lb.map Co.s) = true) :
    Calls Tryz.prog 205 #[.slice A n c, .slice B m d] w (RetAdd (la ++ lb) w) := by
  obtain ⟨i0, hi, hz0, hz1, hz2⟩ := info_parts infoCoin
  have H1 := Lib.hid (tIsSorted A n c la w hla (by omega) hA.1)
  have H2 := Lib.hid (fun q => tIsSorted B m d lb (w.drewN q) hlb (by omega) (hB.ext (Ext.drewN' w q)).1)
  rw [hsa] at H1
  rw [hsb] at H2
  have hmm := makeMapN
  have hA' := Lib.hid hA; have hB' := Lib.hid hB
  have HLA := Lib.hid hla; have HLB := Lib.hid hlb
  have HSZ := Lib.hid hsz; have HZB := Lib.hid hzb
  have HBIG := Lib.hid (show ∀ x ∈ la ++ lb, BigAt w x.b x.z from fun x hx => by rcases List.mem_append.1 hx with h | h; exact hA.2 x h; exact hB.2 x h)
  clear hA hB hsa hsb hla hlb hsz hzb
  go_enter Tryz.func205, Tryz.ntmps205
  go_wp2_with (first | (go_at_call 204; (with_reducible refine H1.out.mono ?_); rintro e w' ⟨rfl, q, rfl⟩) | (go_at_call 204; (with_reducible refine (H2.out _).mono ?_); rintro e w' ⟨rfl, q2, rfl⟩))
  clear hmm
  go_loopw [34] (fun i wr => ∃ (k : Nat) (done : List Co) (G : ByteArray → Value), k ≤ 2 ∧ i = .int .i64 k ∧ done = (if k = 0 then [] else if k = 1 then la else la ++ lb) ∧ Grp wr w.heap.size done G ∧ Ext w wr ∧
      wr.cell? ⟨w.heap.size + 1, 0, none⟩ = some (.slice A n c) ∧ wr.cell? ⟨w.heap.size + 1, 1, none⟩ = some (.slice B m d)) (fun i _ => 2 - (intOf i).toNat)
  case atStart =>
    refine ⟨0, [], fun _ => .nilFunc, by omega, rfl, by simp, grp_start w ?_ (by simp) _, ?_, ?_, ?_⟩
    · exact (Below.heap_alloc _ _ w.heap.size (by simp)).trans (heap_alloc_new (w.drewN (q + q2)) _)
    · exact (Ext.drewN' w _).trans' (ext2 _ _ _)
    · have := cell_new ((w.drewN (q + q2)).alloc (.map #[] 0)) #[.slice A n c, .slice B m d] 161 0
      simpa using this
    · have := cell_new ((w.drewN (q + q2)).alloc (.map #[] 0)) #[.slice A n c, .slice B m d] 161 1
      simpa using this
  case round =>
    obtain ⟨k, done, G0, hk, rfl, hd, hG, hE, hcA, hcB⟩ := hrel
    have HD := Lib.hid hd; have HG := Lib.hid hG; have HE := Lib.hid hE; have HCA := Lib.hid hcA; have HCB := Lib.hid hcB
    clear hd hG hE hcA hcB
    by_cases hlt : k < 2
    · have HX : Hid (∃ (X : Option Addr) (nx cx : Nat) (lx : List Co), wr.cell? ⟨w.heap.size + 1, k, none⟩ = some (.slice X nx cx) ∧ lx.length = nx ∧ CoinsAt w X lx ∧ done.length + nx < 50 ∧ (∀ x ∈ lx, x.s.size ≤ maxLen) ∧ done ++ lx = (if k + 1 = 0 then [] else if k + 1 = 1 then la else la ++ lb)) := by
        refine Lib.hid ?_
        have hla := HLA.out; have hlb := HLB.out; have hsz := HSZ.out
        have e0 := HD.out
        rcases (show k = 0 ∨ k = 1 by omega) with rfl | rfl
        · simp at e0; subst e0
          exact ⟨A, n, c, la, HCA.out, hla, hA'.out, by simp; omega, fun x hx => hsz x (List.mem_append_left _ hx), by simp⟩
        · simp at e0; subst e0
          exact ⟨B, m, d, lb, HCB.out, hlb, hB'.out, by omega, fun x hx => hsz x (List.mem_append_right _ hx), by simp⟩
      obtain ⟨X, nx, cx, lx, hcx, hlx, hX, hdn, hls, hdone⟩ := HX.out
      have HLX := Lib.hid hlx; have HXX := Lib.hid hX; have HDN := Lib.hid hdone; have HLS := Lib.hid hls
      clear hlx hX hdone hls HX HD
      obtain ⟨W1, hW1⟩ : ∃ W1, W1 = wr := ⟨_, rfl⟩
      subst hW1
      go_wp2
      go_loopw [40] (fun i wz => ∃ (j : Nat) (G : ByteArray → Value), j ≤ nx ∧ i = .int .i64 j ∧ Grp wz w.heap.size (done ++ lx.take j) G ∧ Ext w wz ∧ wz.heap[w.heap.size + 1]? = W1.heap[w.heap.size + 1]?) (fun i _ => nx - (intOf i).toNat)
      case atStart => exact ⟨0, G0, Nat.zero_le _, rfl, by simpa using HG.out, HE.out, rfl⟩
      case round =>
        obtain ⟨j, G, hj, rfl, hG, hE, hO⟩ := hrel
        have HG' := Lib.hid hG; have HE' := Lib.hid hE; have HO' := Lib.hid hO
        clear hG hE hO
        by_cases hjl : j < nx
        · have hjx : j < lx.length := by rw [HLX.out]; exact hjl
          obtain ⟨s, hs⟩ : ∃ s, s = lx[j].s := ⟨_, rfl⟩
          obtain ⟨b, hb⟩ : ∃ b, b = lx[j].b := ⟨_, rfl⟩
          obtain ⟨z, hzz⟩ : ∃ z, z = lx[j].z := ⟨_, rfl⟩
          obtain ⟨g, o, hXA, hc⟩ := HXX.out.1 (by intro e; have := congrArg List.length e; simp at this; rw [this] at hjx; simp at hjx)
          subst hXA
          have hck := hc j (by simpa using hjx)
          have cs0 : wr.cell? ⟨g, o + j * 2, none⟩ = some (.string s) := HE'.out.cell' (by rw [hck.1, hs]; simp [Co.pair])
          have cs1 : wr.cell? ⟨g, o + j * 2 + 1, none⟩ = some (.pointer (some ⟨b, 0, none⟩)) := HE'.out.cell' (by rw [hck.2, hb]; simp [Co.pair])
          have hsz1 : s.size ≤ maxLen := by rw [hs]; exact HLS.out _ (List.getElem_mem hjx)
          obtain ⟨pre, hpre⟩ : ∃ pre, pre = done ++ lx.take j := ⟨_, rfl⟩
          rw [← hpre] at HG'
          have hpl : pre.length < 50 := by rw [hpre]; simp; omega
          obtain ⟨v, hv⟩ : ∃ v, v = valAt G pre s := ⟨_, rfl⟩
          obtain ⟨kk, hkk⟩ : ∃ kk, kk = (ofS s pre).length := ⟨_, rfl⟩
          have hkl : kk < 50 := by rw [hkk]; exact Nat.lt_of_le_of_lt (ofS_len _ _) hpl
          have HV := Lib.hid hv; have HKK := Lib.hid hkk; have HPRE := Lib.hid hpre
          have hM0 := (show w.heap.size + 2 ≤ wr.heap.size from by obtain ⟨_, _, _, _, _, h⟩ := HG'.out; exact h)
          have l0 := grp_run HG'.out s hsz1 (wr.alloc (.cells #[.string s, .pointer (some ⟨b, 0, none⟩)] 152)).drew (Below.heap_alloc wr _ _ (by omega))
          have E2 := Lib.hid (show Ext wr (((wr.alloc (.cells #[.string s, .pointer (some ⟨b, 0, none⟩)] 152)).alloc (.cells #[.string s, .pointer (some ⟨b, 0, none⟩)] 152)).drew) from (ext2 wr _ _).trans' (Ext.drewN' _ 1))
          have l1 := grp_run HG'.out s hsz1 ((wr.alloc (.cells #[.string s, .pointer (some ⟨b, 0, none⟩)] 152)).alloc (.cells #[.string s, .pointer (some ⟨b, 0, none⟩)] 152)).drew (E2.out.block _ (by omega))
          rw [← hv] at l0 l1
          have HROW := Lib.hid (by have := grp_row HG'.out s; rw [← hv] at this; unfold CoRow at this; rw [← hkk] at this; exact owns_ext this E2.out)
          have NEWS := Lib.hid (two_new1 wr (.cells #[.string s, .pointer (some ⟨b, 0, none⟩)] 152) (.string s) (.pointer (some ⟨b, 0, none⟩)) 152)
          have S0 := Lib.hid (two_keep wr s b).1; have S1 := Lib.hid (two_keep wr s b).2
          have ONE := Lib.hid (two_one (.string s) (.pointer (some ⟨b, 0, none⟩)) rfl rfl)
          have HJ := Lib.hid (show lx[j] = ⟨s, b, z⟩ by rw [hs, hb, hzz])
          clear hs hb hzz hck hc hv hkk hpre
          go_wp2
          go_region_held3 (fun w' => w'.cell? ⟨wr.heap.size, 0, none⟩ = some (.string s) ∧ w'.cell? ⟨wr.heap.size, 1, none⟩ = some (.pointer (some ⟨b, 0, none⟩))) (first | exact K3 | exact K2 | go_keep) (first | (refine step_append_lies _ rfl (.tmp 50) (.tmp 52) 161 rfl (w.heap.size + 2) 152 i0 _ 2 24 Tryz.underlying161 hi hz0 hz1 hz2 rfl (by decide) v kk (flat2 ((ofS s pre).map Co.pair)) rfl HROW.out ⟨wr.heap.size + 1, 0, none⟩ 1 1 [.string s, .pointer (some ⟨b, 0, none⟩)] rfl rfl NEWS.out ONE.out (by decide) (by unfold maxLen; omega) (by omega) (by simp; omega) _ rfl ?_; intro g2 cap w2 hown hgrow hblk _; obtain ⟨K2, W3, G3, hupd, hg3, hr3⟩ := grp_arm HG'.out HE'.out ⟨s, b, z⟩ hsz1 hpl E2.out HKK.out HV.out hown hgrow hblk S0.out S1.out; have K3 := hr3.2.2; have R3 := Lib.hid (And.intro hg3 hr3); clear hown hgrow hblk hg3 hr3))
          all_goals go_wp2
          all_goals go_roundw
          all_goals first | (refine ⟨j + 1, by omega, by omega, ⟨G3, ?_⟩, R3.out.2.1, R3.out.2.2.1.trans HO'.out⟩; rw [List.take_succ_eq_append_getElem hjx, ← List.append_assoc, ← HPRE.out, HJ.out]; exact R3.out.1) | (simp [intOf]; omega)
        · obtain rfl : j = nx := by omega
          go_wp2
          go_roundw
          case rel =>
            refine ⟨k + 1, done ++ lx, G, by omega, by go_num, HDN.out, ?_, HE'.out, ?_, ?_⟩
            · have := HG'.out; rwa [List.take_of_length_le (by rw [HLX.out]; exact Nat.le_refl _)] at this
            · exact (World.cell?_of_block HO'.out).trans HCA.out
            · exact (World.cell?_of_block HO'.out).trans HCB.out
          case measure => simp [intOf]; omega
    · obtain rfl : k = 2 := by omega
      obtain rfl : done = la ++ lb := by have := HD.out; simpa using this
      obtain ⟨all, hall⟩ : ∃ all, all = la ++ lb := ⟨_, rfl⟩
      rw [← hall] at HG HSZ HZB HBIG ⊢
      have hal : all.length < 50 := by rw [hall]; simp; have := HLA.out; have := HLB.out; omega
      have HGG := HG.out
      obtain ⟨D, hM, hH, _⟩ := HGG
      have HK := Lib.hid (zKeys w.heap.size all.length D wr hM (by have := size_of_owns hM; omega))
      have HH := Lib.hid hH
      clear hM hH HD
      go_wp2_with (first | (go_at_call 250; (with_reducible refine HK.out.mono ?_); rintro e w2 ⟨kv, ks, rfl, hko, hkE, hkm, hks⟩; obtain ⟨KA, kc, rfl⟩ := own_slice hko; have KO := Lib.hid (keysAt_of hko); have KE := Lib.hid hkE; have KM := Lib.hid (fun s => (hkm s).trans (HH.out s)); have KS := Lib.hid hks; clear hko hkE hkm hks))
      obtain ⟨W2, hW2⟩ : ∃ W2, W2 = w2 := ⟨_, rfl⟩
      subst hW2
      have HE2 := Lib.hid (HE.out.trans' KE.out)
      have hkn : ks.length < 50 := by
        have h1 : ks.length ≤ (all.map Co.s).length := List.Nodup.length_le_of_subset (KS.out.imp fun {a b} h e => by subst e; rw [keyLt_irrefl] at h; cases h) (fun s hs => by
          obtain ⟨c, hc, e⟩ := ofS_ne.1 ((KM.out s).1 hs)
          exact List.mem_map.2 ⟨c, hc, e⟩)
        simp at h1; omega
      obtain ⟨W1, hW1⟩ : ∃ W1, W1 = wr := ⟨_, rfl⟩
      subst hW1
      go_loopw [4, 59] (fun v i wr => ∃ (k : Nat) (cs : List Co), k ≤ ks.length ∧ i = .int .i64 k ∧ cs.map Co.val = coal (ks.take k) all ∧ CoinsOwn wr W2.heap.size v cs ∧ Ext W2 wr) (fun _ i _ => ks.length - (intOf i).toNat)
      case atStart => exact ⟨0, [], Nat.zero_le _, rfl, rfl, CoinsOwn.nil _ _, Ext.refl _⟩
      case round =>
        obtain ⟨k, cs, hk, rfl, hcv, hown, hE⟩ := hrel
        have HV := Lib.hid hcv; have HO := Lib.hid hown; have HEr := Lib.hid hE
        have hcl : cs.length < 50 := by
          have h1 : cs.length = (coal (ks.take k) all).length := by rw [← hcv]; simp
          have h2 : (coal (ks.take k) all).length ≤ (ks.take k).length := List.length_filterMap_le _ _
          have : (ks.take k).length ≤ ks.length := by simp; omega
          omega
        clear hcv hown hE
        by_cases hlt : k < ks.length
        · obtain ⟨s, hs⟩ : ∃ s, s = ks[k] := ⟨_, rfl⟩
          obtain ⟨g, hKA, hkc⟩ := KO.out (by intro e; rw [e] at hlt; simp at hlt)
          subst hKA
          have cs0 : wr.cell? ⟨g, k, none⟩ = some (.string s) := HEr.out.cell' (by rw [hkc k hlt, hs])
          have hin : ofS s all ≠ [] := (KM.out s).1 (by rw [hs]; exact List.getElem_mem hlt)
          have hss : s.size ≤ maxLen := by obtain ⟨c, hc, e⟩ := ofS_ne.1 hin; rw [← e]; exact HSZ.out c hc
          have HEw := Lib.hid (KE.out.trans' HEr.out)
          have hM0 := (show w.heap.size + 2 ≤ W1.heap.size from by obtain ⟨_, _, _, _, _, h⟩ := HG.out; exact h)
          obtain ⟨RA, rc, hrv⟩ := own_slice (grp_row HG.out s)
          have l0 := grp_run HG.out s hss wr (HEw.out.block _ (by omega))
          have hrow := grp_row HG.out s
          rw [hrv] at l0 hrow
          obtain ⟨rows, hrows⟩ : ∃ rows, rows = ofS s all := ⟨_, rfl⟩
          obtain ⟨nr, hnr⟩ : ∃ nr, nr = rows.length := ⟨_, rfl⟩
          rw [← hrows, ← hnr] at l0
          rw [← hrows] at hrow
          have HRA := Lib.hid (recAt_of_owns (ps := rows.map Co.pair) (by simp) hrow)
          have HS := Lib.hid hs; have HROWS := Lib.hid hrows; have HNR := Lib.hid hnr
          have hnr50 : nr < 50 := by rw [hnr, hrows]; exact Nat.lt_of_le_of_lt (ofS_len _ _) hal
          clear hs hkc hrows hrow hrv hnr hin
          go_wp2_with (first | (go_at_call 155; refine (mNewInt 0 _ (by unfold maxI; omega) (by unfold maxI; omega)).mono ?_; rintro e w1 ⟨b0, rfl, hB, hE⟩; have HB0 := Lib.hid hB; have HE0 := Lib.hid hE; clear hB hE))
          obtain ⟨Wr, hWr⟩ : ∃ Wr, Wr = wr := ⟨_, rfl⟩
          subst hWr
          have hc1 := (show W2.heap.size ≤ w1.heap.size from Nat.le_trans HEr.out.size HE0.out.size)
          have hc2 := (show w.heap.size ≤ W2.heap.size from HE2.out.size)
          go_loopw [71] (fun i wz => ∃ (j b : Nat) (z : Int), j ≤ nr ∧ i = .int .i64 j ∧ Blk wz w1.heap.size 152 [.string s, .pointer (some ⟨b, 0, none⟩)] ∧ BigAt wz b z ∧ z = ((rows.take j).map Co.z).sum ∧ Only w1.heap.size w1 wz) (fun i _ => nr - (intOf i).toNat)
          case atStart => exact ⟨0, b0, 0, Nat.zero_le _, rfl, Blk.new _ _ _, HB0.out.ext (Ext.alloc' _ _), by simp, Only.of_ext (Ext.alloc' _ _)⟩
          case round =>
            obtain ⟨j, b, z, hj, rfl, hb, hB, hz, hO⟩ := hrel
            have HB := Lib.hid hb; have HBz := Lib.hid hB; have HZ := Lib.hid hz; have HOz := Lib.hid hO
            have HEz := Lib.hid (show Ext W2 wr from Only.ext (HEr.out.trans' HE0.out) hO hc1)
            have hzbd : z.natAbs < 56294995342131200 := by
              rw [hz]
              have hl : ((rows.take j).map Co.z).sum.natAbs ≤ (rows.take j).length * 1125899906842624 := sum_bound _ _ (fun x hx => HZB.out x (by
                have := List.mem_of_mem_take hx
                rw [HROWS.out] at this
                exact (List.mem_filter.1 this).1))
              have : (rows.take j).length ≤ 49 := by simp; have := HNR.out; omega
              omega
            have p0 : wr.cell? ⟨w1.heap.size, 0, none⟩ = some (.string s) := (HB.out.cell 0).trans rfl
            have p1 : wr.cell? ⟨w1.heap.size, 1, none⟩ = some (.pointer (some ⟨b, 0, none⟩)) := (HB.out.cell 1).trans rfl
            clear hb hB hz hO
            by_cases hjl : j < nr
            · have hjx : j < rows.length := by rw [← HNR.out]; exact hjl
              obtain ⟨t, ht⟩ : ∃ t, t = rows[j].s := ⟨_, rfl⟩
              obtain ⟨y, hy⟩ : ∃ y, y = rows[j].b := ⟨_, rfl⟩
              obtain ⟨x, hx⟩ : ∃ x, x = rows[j].z := ⟨_, rfl⟩
              obtain ⟨g2, o2, hRA, hc⟩ := HRA.out (by intro e; have := congrArg List.length e; simp at this; rw [this] at hjx; simp at hjx)
              subst hRA
              have hck := hc j (by simpa using hjx)
              have hEall := (show Ext W1 wr from KE.out.trans' HEz.out)
              have hmem : rows[j] ∈ all := by
                have h2 : rows[j] ∈ ofS s all := by rw [← HROWS.out]; exact List.getElem_mem hjx
                exact (List.mem_filter.1 h2).1
              have hts : t = s := by
                have := List.getElem_mem hjx
                rw [ht]
                have h2 : rows[j] ∈ ofS s all := by rw [← HROWS.out]; exact this
                simpa using (List.mem_filter.1 h2).2
              subst hts
              have ct0 : wr.cell? ⟨g2, o2 + j * 2, none⟩ = some (.string t) := hEall.cell' (by rw [hck.1, ht]; simp [Co.pair])
              have ct1 : wr.cell? ⟨g2, o2 + j * 2 + 1, none⟩ = some (.pointer (some ⟨y, 0, none⟩)) := hEall.cell' (by rw [hck.2, hy]; simp [Co.pair])
              have HY := Lib.hid (show BigAt wr y x by rw [hy, hx]; exact (HBIG.out _ hmem).ext (HE2.out.trans' HEz.out))
              have hxb : x.natAbs ≤ 1125899906842624 := by rw [hx]; exact HZB.out _ hmem
              have HX := Lib.hid hx
              have p0' := cell_old (.cells #[.string t, .pointer (some ⟨y, 0, none⟩)] 152) p0
              have p1' := cell_old (.cells #[.string t, .pointer (some ⟨y, 0, none⟩)] 152) p1
              clear ht hy hx hck hc hmem hEall
              go_wp2_with (first | (go_at_call 251; refine (tAdd t b y z x _ (HBz.out.ext (Ext.alloc' _ _)) (HY.out.ext (Ext.alloc' _ _)) (by unfold B64; omega) (by unfold B64; omega) (by unfold B64; omega)).mono ?_; rintro e w3 ⟨b3, rfl, hB3, hE3⟩; have HB3 := Lib.hid hB3; have HE3 := Lib.hid ((Ext.alloc' _ _).trans' hE3); have q0 : w3.cell? ⟨w1.heap.size, 0, none⟩ = some (.string t) := HE3.out.cell' p0; have q1 : w3.cell? ⟨w1.heap.size, 1, none⟩ = some (.pointer (some ⟨b, 0, none⟩)) := HE3.out.cell' p1; have f0 := (HB.out.ext HE3.out).frozen 0; have f1 := (HB.out.ext HE3.out).frozen 1; clear hB3 hE3))
              go_roundw
              case rel =>
                have k0 := HB.out.ext HE3.out
                refine ⟨j + 1, b3, z + x, by omega, by go_num, ?_, ?_, ?_, ((HOz.out.trans' (Only.of_ext HE3.out)).set_ _ _).set_ _ _⟩
                · have := (k0.set_ 0 (.string t)).set_ 1 (.pointer (some ⟨b3, 0, none⟩)); simpa using this
                · exact (HB3.out.set_ k0 0 _).set_ (k0.set_ 0 (.string t)) 1 _
                · rw [List.take_succ_eq_append_getElem hjx, List.map_append, List.sum_append, ← HZ.out, HX.out]; simp
              case measure => simp [intOf]; omega
            · obtain rfl : j = nr := by omega
              have hzt : z = total s all := by rw [HZ.out, List.take_of_length_le (by rw [← HNR.out]; exact Nat.le_refl _), HROWS.out]; rfl
              have HZT := Lib.hid hzt; clear hzt
              have HEw1 := Lib.hid (show Ext w1 wr from Only.ext (Ext.refl w1) HOz.out (Nat.le_refl _))
              have HO4 := Lib.hid ((HO.out.ext HE0.out).ext HEw1.out)
              by_cases hz0' : z = 0
              · have hsg : (sgn z == 0) = true := by rw [hz0']; rfl
                go_wp2_with (first | (go_at_call 103; refine (tIsZero s b z _ HBz.out).mono ?_; rintro e w4 ⟨rfl, hE4⟩; have HE4 := Lib.hid hE4; clear hE4))
                go_roundw
                case rel =>
                  refine ⟨k + 1, cs, by omega, by go_num, ?_, HO4.out.ext HE4.out, HEz.out.trans' HE4.out⟩
                  rw [List.take_succ_eq_append_getElem hlt, ← HS.out, coal_snoc, if_pos (by rw [← HZT.out]; exact hz0'), List.append_nil]; exact HV.out
                case measure => simp [intOf]; omega
              · have hsg : (sgn z == 0) = false := by unfold sgn; split <;> (try split) <;> first | rfl | (exfalso; omega)
                go_wp2_with (first | (go_at_call 103; refine (tIsZero s b z _ HBz.out).mono ?_; rintro e w4 ⟨rfl, hE4⟩; have HE4 := Lib.hid hE4; have q0 := hE4.cell' p0; have q1 := hE4.cell' p1; clear hE4) | (at_builtin; refine wpList_append_own_at _ rfl (.tmp 82) (.tmp 84) 161 rfl W2.heap.size 152 i0 _ 2 24 Tryz.underlying161 hi hz0 hz1 hz2 rfl (by decide) u4 cs.length (flat2 (cs.map Co.pair)) rfl (owns_ext (owns_ext HO4.out.1 HE4.out) (ext1 _ _)) ⟨w4.heap.size, 0, none⟩ 1 1 [.string s, .pointer (some ⟨b, 0, none⟩)] rfl rfl (cell_two_new _ _ _ _) (two_one _ _ rfl rfl) (by unfold maxLen; omega) (by omega) (by have := HEz.out.size; have := HE4.out.size; simp; omega) ?_; intro v' w5 hown5 hgrow5 _ _; have R := Lib.hid (coins_push (w := W2) (z := z) ((HO4.out.ext HE4.out).ext (ext1 _ _)) ((HBz.out.ext HE4.out).ext (ext1 _ _)) ((HEz.out.trans' HE4.out).trans' (ext1 _ _)) hown5 hgrow5); clear hown5 hgrow5))
                go_roundw
                case rel =>
                  refine ⟨k + 1, cs ++ [⟨s, b, z⟩], by omega, by go_num, ?_, R.out.1, R.out.2⟩
                  rw [List.take_succ_eq_append_getElem hlt, ← HS.out, coal_snoc, if_neg (by rw [← HZT.out]; exact hz0'), List.map_append, HV.out, ← HZT.out]; rfl
                case measure => simp [intOf]; omega
        · obtain rfl : k = ks.length := by omega
          have hvt : cs.map Co.val = coal ks all := by have := HV.out; rwa [List.take_length] at this
          have hst : cs.Pairwise fun a b => keyLt (Co.s a) (Co.s b) = true := by
            have h1 := coal_strict all KS.out
            rw [← hvt, List.pairwise_map] at h1
            exact h1
          have HVT := Lib.hid hvt; have HST := Lib.hid hst
          clear hvt hst
          have HM := Lib.hid (show ∀ s, s ∈ ks ↔ ofS s (la ++ lb) ≠ [] by rw [← hall]; exact KM.out)
          rcases HO.out.1.2 with ⟨hv, hn0⟩ | ⟨g, cap, cur, hv, hbg, hgb, hnc, hcm, hcs, hct⟩
          · subst hv
            obtain rfl : cs = [] := List.length_eq_zero_iff.1 hn0
            have hp : ∀ W : World, (binOp .eql 161 (.slice none 0 0) (.slice none 0 0)).run Tryz.prog W = .ok (.bool true) W := fun _ => by kernel_rfl
            go_wp2
            go_ret
            exact ⟨.slice (some ⟨wr.heap.size, 0, none⟩) 0 0, [], ks, rfl, ⟨⟨rfl, Or.inr ⟨wr.heap.size, 0, #[], rfl, Nat.le_trans HE2.out.size HEr.out.size, heap_alloc_new _ _, Nat.le_refl _, by decide, rfl, rfl⟩⟩, fun _ h => by cases h⟩, (HE2.out.trans' HEr.out).trans' (ext1 _ _), by rw [← hall]; exact HVT.out, KS.out, HM.out⟩
          · subst hv
            have hp : ∀ (W : World) (r n c : Nat), (binOp .eql 161 (.slice (some ⟨r, 0, none⟩) n c) (.slice none 0 0)).run Tryz.prog W = .ok (.bool false) W := fun _ _ _ _ => by kernel_rfl
            have HROW := Lib.hid (row_of_own hgb hct)
            have HTS := Lib.hid (tSort g cs.length cap cs _ wr HROW.out rfl (Or.inr ⟨by omega, inOrd_of HST.out⟩))
            clear hgb hct
            go_wp2_with (first | (go_at_call 252; (with_reducible refine HTS.out.mono ?_); rintro e w5 ⟨rfl, L, hr, ho, hP, hS⟩; have HR := Lib.hid hr; have HO5 := Lib.hid ho; have HP5 := Lib.hid hP; have HS5 := Lib.hid hS; clear hr ho hP hS))
            go_ret
            obtain rfl : L = cs := asc_unique (key := Co.s) HP5.out HS5.out HST.out
            refine ⟨.slice (some ⟨g, 0, none⟩) L.length cap, L, ks, rfl, ⟨⟨?_, Or.inr ⟨g, cap, (flat2 (L.map Co.pair) ++ cur.toList.drop (L.length * 2)).toArray, rfl, Nat.le_trans HE2.out.size hbg, HR.out, hnc, hcm, ?_, ?_⟩⟩, fun x hx => (HO.out.2 x hx).only HO5.out HROW.out⟩, Only.ext (HE2.out.trans' HEr.out) HO5.out (Nat.le_trans HE2.out.size hbg), by rw [← hall]; exact HVT.out, KS.out, HM.out⟩
            · rw [flat2_length]; simp
            · have h1 : (flat2 (L.map Co.pair)).length = L.length * 2 := by rw [flat2_length]; simp
              simp [h1]; have := hcs; omega
            · have h1 : (flat2 (L.map Co.pair)).length = L.length * 2 := by rw [flat2_length]; simp
              rw [show (flat2 (L.map Co.pair) ++ cur.toList.drop (L.length * 2)).toArray.toList = flat2 (L.map Co.pair) ++ cur.toList.drop (L.length * 2) from rfl, List.take_append_of_le_length (by omega), List.take_of_length_le (by omega)]
end Go.Proofs.YtfafiahefjimdaaGreatDoor

namespace Go.Proofs.YtfafiahefjimdaaGreatDoor
open Go Go.RowKit Go.Maps

/-- The sum of one denomination. -/
def totalP (s : ByteArray) (l : List (ByteArray × Int)) : Int := ((l.filter fun x => decide (x.1 = s)).map Prod.snd).sum
/-- The sums that are not 0. -/
def coalP (ks : List ByteArray) (l : List (ByteArray × Int)) : List (ByteArray × Int) := ks.filterMap fun s => if totalP s l = 0 then none else some (s, totalP s l)
theorem total_plain (s : ByteArray) (l : List Co) : total s l = totalP s (l.map Co.val) := by
  unfold total totalP ofS
  rw [List.filter_map, List.map_map]; rfl
theorem coal_plain (ks : List ByteArray) (l : List Co) : coal ks l = coalP ks (l.map Co.val) := by
  unfold coal coalP; congr 1; funext s; rw [total_plain]
/-- r has the sums of l by their denominations, in order, without those of nothing. -/
def IsAdd (l r : List (ByteArray × Int)) : Prop := ∃ ks : List ByteArray, ks.Pairwise (fun a b => keyLt a b = true) ∧ (∀ s, s ∈ ks ↔ ∃ x ∈ l, x.1 = s) ∧ r = coalP ks l
theorem isAdd_unique {l r r' : List (ByteArray × Int)} (h : IsAdd l r) (h' : IsAdd l r') : r = r' := by
  obtain ⟨ks, h1, h2, rfl⟩ := h
  obtain ⟨ks', h1', h2', rfl⟩ := h'
  have hn : ∀ {k : List ByteArray}, k.Pairwise (fun a b => keyLt a b = true) → k.Nodup := fun h => h.imp fun {a b} h e => by subst e; rw [keyLt_irrefl] at h; cases h
  have hp : ks.Perm ks' := (List.perm_ext_iff_of_nodup (hn h1) (hn h1')).2 fun s => (h2 s).trans (h2' s).symm
  have : ks = ks' := asc_unique (key := id) hp (h1.imp fun h => le_of_lt h) h1'
  rw [this]

/-- The two lists are added; or they are told as not sorted. -/
def RetAddOf (l m : List (ByteArray × Int)) (w : World) (e : Ending) (w' : World) : Prop :=
  if sortedB (l.map Prod.fst) = true ∧ sortedB (m.map Prod.fst) = true then ∃ v r, e = .returned (.tuple #[v, .bool true]) ∧ IsAdd (l ++ m) r ∧ PlainOwn w' w.heap.size 55 v r ∧ Ext w w'
  else e = .returned (.tuple #[.slice none 0 0, .bool false]) ∧ Ext w w'

set_option maxRecDepth 100000 in
theorem tAddCoins (A B : Option Addr) (n c m d : Nat) (la lb : List Co) (w : World) (hla : la.length = n) (hlb : lb.length = m) (hn : n + m < 50) (hA : CoinsAt w A la) (hB : CoinsAt w B lb)
    (hsz : ∀ x ∈ la ++ lb, x.s.size ≤ maxLen) (hzb : ∀ x ∈ la ++ lb, x.z.natAbs ≤ 1125899906842624)
    (hsa : sortedB (la.map Co.s) = true) (hsb : sortedB (lb.map Co.s) = true) :
    Calls Tryz.prog 163 #[.slice A n c, .slice B m d] w (RetAdd (la ++ lb) w) := by
  have H := Lib.hid (safeAdd A B n c m d la lb w hla hlb hn hA hB hsz hzb hsa hsb)
  clear hla hlb hn hA hB hsz hzb hsa hsb
  go_enter Tryz.func163, Tryz.ntmps163
  go_wp2_with (first | (go_at_call 205; (with_reducible refine H.out.mono ?_); rintro e w' ⟨v, cs, ks, rfl, h⟩; have H2 := Lib.hid h; clear h))
  go_ret
  exact ⟨v, cs, ks, rfl, H2.out⟩

theorem own_at {w : World} {base n c : Nat} {A : Option Addr} {cs : List Co} (h : CoinsOwn w base (.slice A n c) cs) : CoinsAt w A cs ∧ cs.length = n := by
  obtain ⟨h1, h2⟩ := h
  have hn : cs.length = n := by
    rcases h1.2 with ⟨hv, h0⟩ | ⟨g, cap, cur, hv, _⟩
    · injection hv with _ e _; omega
    · injection hv with _ e _; exact e.symm
  subst hn
  exact ⟨⟨recAt_of_owns (ps := cs.map Co.pair) (by simp) h1, h2⟩, rfl⟩
theorem coins_shape {w : World} {base : Nat} {v : Value} {cs : List Co} (h : CoinsOwn w base v cs) : ∃ A c, v = .slice A cs.length c := own_slice h.1

theorem coal_bound {ks : List ByteArray} {l : List Co} (hl : l.length < 50) (hz : ∀ x ∈ l, x.z.natAbs ≤ 1125899906842624) : ∀ y ∈ coal ks l, y.2.natAbs ≤ 56294995342131200 := by
  intro y hy
  obtain ⟨s, _, hs⟩ := List.mem_filterMap.1 hy
  split at hs
  · cases hs
  · injection hs with hs; subst hs
    have h1 : (total s l).natAbs ≤ (ofS s l).length * 1125899906842624 := sum_bound (ofS s l) _ fun x hx => hz x (List.mem_filter.1 hx).1
    have h2 := ofS_len s l
    have h3 : (ofS s l).length * 1125899906842624 ≤ 49 * 1125899906842624 := Nat.mul_le_mul_right _ (by omega)
    show (total s l).natAbs ≤ _
    omega

theorem fst_of {cs : List Co} {l : List (ByteArray × Int)} (h : cs.map Co.val = l) : cs.map Co.s = l.map Prod.fst := by rw [← h, List.map_map]; rfl
theorem sorted_of {W W' : World} {base c : Nat} {A : Option Addr} {cs : List Co} {l : List (ByteArray × Int)} {r : Bool} (h : CoinsOwn W base (.slice A cs.length c) cs) (hv : cs.map Co.val = l) (e : Ext W W') (hn : cs.length ≤ 1000000) (hr : r = sortedB (l.map Prod.fst)) :
    Calls Tryz.prog 161 #[.slice A cs.length c] W' (RetQ (.bool r) W') := by
  rw [hr, ← fst_of hv]
  exact tSorted A cs.length c cs W' rfl hn ((own_at h).1.ext e).1
theorem mem_val {cs cs' : List Co} {l l' : List (ByteArray × Int)} (h : cs.map Co.val = l) (h' : cs'.map Co.val = l') {x : Co} (hx : x ∈ cs ++ cs') : x.val ∈ l ++ l' := by
  rw [← h, ← h', ← List.map_append]; exact List.mem_map_of_mem hx
theorem ofS_plain {cs cs' : List Co} {l l' : List (ByteArray × Int)} (h : cs.map Co.val = l) (h' : cs'.map Co.val = l') (s : ByteArray) : ofS s (cs ++ cs') ≠ [] ↔ ∃ x ∈ l ++ l', x.1 = s := by
  rw [ofS_ne, ← h, ← h', ← List.map_append]
  constructor
  · rintro ⟨c, hc, e⟩; exact ⟨c.val, List.mem_map_of_mem hc, e⟩
  · rintro ⟨x, hx, e⟩
    obtain ⟨c, hc, rfl⟩ := List.mem_map.1 hx
    exact ⟨c, hc, e⟩
theorem strict_len {ks : List ByteArray} {all : List Co} (hk : ks.Pairwise fun a b => keyLt a b = true) (hm : ∀ s, s ∈ ks ↔ ofS s all ≠ []) : ks.length ≤ all.length := by
  have h1 : ks.length ≤ (all.map Co.s).length := List.Nodup.length_le_of_subset (hk.imp fun {a b} h e => by subst e; rw [keyLt_irrefl] at h; cases h) (fun s hs => by
    obtain ⟨c, hc, e⟩ := ofS_ne.1 ((hm s).1 hs)
    exact List.mem_map.2 ⟨c, hc, e⟩)
  simpa using h1
theorem coal_len {cs3 cs cs2 : List Co} {ks : List ByteArray} {n m : Nat} (hv : cs3.map Co.val = coal ks (cs ++ cs2)) (h1 : cs.length = n) (h2 : cs2.length = m) (hm : ∀ s, s ∈ ks ↔ ofS s (cs ++ cs2) ≠ []) (hk : ks.Pairwise fun a b => keyLt a b = true) : cs3.length ≤ n + m := by
  have e1 : cs3.length = (coal ks (cs ++ cs2)).length := by rw [← hv]; simp
  have e2 : (coal ks (cs ++ cs2)).length ≤ ks.length := List.length_filterMap_le _ _
  have e3 := strict_len hk hm
  simp at e3; omega
theorem back_bound {cs3 : List Co} {ks : List ByteArray} {all : List Co} (hv : cs3.map Co.val = coal ks all) (hl : all.length < 50) (hz : ∀ x ∈ all, x.z.natAbs ≤ 1125899906842624) : ∀ x ∈ cs3, -maxI ≤ x.z ∧ x.z ≤ maxI := by
  intro x hx
  have : x.val ∈ coal ks all := by rw [← hv]; exact List.mem_map_of_mem hx
  have := coal_bound hl hz _ this
  have h2 : x.val.2 = x.z := rfl
  rw [h2] at this
  unfold maxI; omega

set_option maxRecDepth 100000 in
set_option maxHeartbeats 2000000 in
theorem iAddOf (A B : Option Addr) (n c m d : Nat) (l l' : List (ByteArray × Int)) (w : World) (hl : l.length = n) (hl' : l'.length = m) (hn : n + m < 50) (hA : PlainAt w A l) (hB : PlainAt w B l')
    (hsz : ∀ x ∈ l ++ l', x.1.size ≤ maxLen) (hzb : ∀ x ∈ l ++ l', x.2.natAbs ≤ 1125899906842624) :
    Calls Tryz.prog 109 #[.slice A n c, .slice B m d] w (RetAddOf l l' w) := by
  have hb : ∀ x ∈ l ++ l', -maxI ≤ x.2 ∧ x.2 ≤ maxI := fun x hx => by have := hzb x hx; unfold maxI; omega
  have H1 := Lib.hid (iCoins A n c l w hl (by omega) hA fun x hx => hb x (List.mem_append_left _ hx))
  have H2 := Lib.hid (fun (W : World) (e : Ext w W) => iCoins B m d l' W hl' (by omega) (PlainAt.ext hB e) fun x hx => hb x (List.mem_append_right _ hx))
  have HSZ := Lib.hid hsz; have HZB := Lib.hid hzb; have HL := Lib.hid hl; have HL' := Lib.hid hl'
  clear hb hA hB hsz hzb hl hl'
  obtain ⟨r1, hr1⟩ : ∃ r1, r1 = sortedB (l.map Prod.fst) := ⟨_, rfl⟩
  obtain ⟨r2, hr2⟩ : ∃ r2, r2 = sortedB (l'.map Prod.fst) := ⟨_, rfl⟩
  have HR1 := Lib.hid hr1; have HR2 := Lib.hid hr2
  clear hr1 hr2
  cases r1
  · go_enter Tryz.func109, Tryz.ntmps109
    go_wp2_with (first | (go_at_call 111; (with_reducible refine H1.out.mono ?_); rintro e w1 ⟨v, cs, rfl, hcv, hown, hE⟩; obtain ⟨A1, c1, rfl⟩ := coins_shape hown; have HV := Lib.hid hcv; have HO := Lib.hid hown; have HE := Lib.hid hE; have HN := Lib.hid (show cs.length = n by rw [← HL.out, ← hcv]; simp); clear hcv hown hE) | (go_at_call 111; (with_reducible refine (H2.out _ HE.out).mono ?_); rintro e w2 ⟨v2, cs2, rfl, hcv2, hown2, hE2⟩; obtain ⟨A2, c2, rfl⟩ := coins_shape hown2; have HV2 := Lib.hid hcv2; have HO2 := Lib.hid hown2; have HE2 := Lib.hid hE2; have HN2 := Lib.hid (show cs2.length = m by rw [← HL'.out, ← hcv2]; simp); have HC1 := Lib.hid (sorted_of HO.out HV.out hE2 (by rw [HN.out]; omega) HR1.out); have HC2 := Lib.hid (fun q => sorted_of hown2 hcv2 (Ext.drewN' w2 q) (by rw [HN2.out]; omega) HR2.out); clear hcv2 hown2 hE2) | (go_at_call 161; (with_reducible refine HC1.out.mono ?_); rintro e w3 ⟨rfl, q, rfl⟩))
    go_ret2
    unfold RetAddOf
    rw [if_neg (by rw [← HR1.out]; simp)]
    exact ⟨rfl, (HE.out.trans' HE2.out).trans' (Ext.drewN' _ _)⟩
  · cases r2
    · go_enter Tryz.func109, Tryz.ntmps109
      go_wp2_with (first | (go_at_call 111; (with_reducible refine H1.out.mono ?_); rintro e w1 ⟨v, cs, rfl, hcv, hown, hE⟩; obtain ⟨A1, c1, rfl⟩ := coins_shape hown; have HV := Lib.hid hcv; have HO := Lib.hid hown; have HE := Lib.hid hE; have HN := Lib.hid (show cs.length = n by rw [← HL.out, ← hcv]; simp); clear hcv hown hE) | (go_at_call 111; (with_reducible refine (H2.out _ HE.out).mono ?_); rintro e w2 ⟨v2, cs2, rfl, hcv2, hown2, hE2⟩; obtain ⟨A2, c2, rfl⟩ := coins_shape hown2; have HV2 := Lib.hid hcv2; have HO2 := Lib.hid hown2; have HE2 := Lib.hid hE2; have HN2 := Lib.hid (show cs2.length = m by rw [← HL'.out, ← hcv2]; simp); have HC1 := Lib.hid (sorted_of HO.out HV.out hE2 (by rw [HN.out]; omega) HR1.out); have HC2 := Lib.hid (fun q => sorted_of hown2 hcv2 (Ext.drewN' w2 q) (by rw [HN2.out]; omega) HR2.out); clear hcv2 hown2 hE2) | (go_at_call 161; (with_reducible refine HC1.out.mono ?_); rintro e w3 ⟨rfl, q, rfl⟩) | (go_at_call 161; (with_reducible refine (HC2.out _).mono ?_); rintro e w3 ⟨rfl, q2, rfl⟩))
      go_ret2
      unfold RetAddOf
      rw [if_neg (by rw [← HR2.out]; simp)]
      exact ⟨rfl, (HE.out.trans' HE2.out).trans' (Ext.drewN' _ _)⟩
    · go_enter Tryz.func109, Tryz.ntmps109
      go_wp2_with (first | (go_at_call 111; (with_reducible refine H1.out.mono ?_); rintro e w1 ⟨v, cs, rfl, hcv, hown, hE⟩; obtain ⟨A1, c1, rfl⟩ := coins_shape hown; have HV := Lib.hid hcv; have HO := Lib.hid hown; have HE := Lib.hid hE; have HN := Lib.hid (show cs.length = n by rw [← HL.out, ← hcv]; simp); clear hcv hown hE) | (go_at_call 111; (with_reducible refine (H2.out _ HE.out).mono ?_); rintro e w2 ⟨v2, cs2, rfl, hcv2, hown2, hE2⟩; obtain ⟨A2, c2, rfl⟩ := coins_shape hown2; have HV2 := Lib.hid hcv2; have HO2 := Lib.hid hown2; have HE2 := Lib.hid hE2; have HN2 := Lib.hid (show cs2.length = m by rw [← HL'.out, ← hcv2]; simp); have HC1 := Lib.hid (sorted_of HO.out HV.out hE2 (by rw [HN.out]; omega) HR1.out); have HC2 := Lib.hid (fun q => sorted_of hown2 hcv2 (Ext.drewN' w2 q) (by rw [HN2.out]; omega) HR2.out); clear hcv2 hown2 hE2) | (go_at_call 161; (with_reducible refine HC1.out.mono ?_); rintro e w3 ⟨rfl, q, rfl⟩) | (go_at_call 161; (with_reducible refine (HC2.out _).mono ?_); rintro e w3 ⟨rfl, q2, rfl⟩) | (go_at_call 163; refine (tAddCoins A1 A2 cs.length c1 cs2.length c2 cs cs2 _ rfl rfl (by rw [HN.out, HN2.out]; exact hn) ((own_at HO.out).1.ext (HE2.out.trans' (Ext.drewN' _ _))) ((own_at HO2.out).1.ext (Ext.drewN' _ _)) (fun x hx => HSZ.out _ (mem_val HV.out HV2.out hx)) (fun x hx => HZB.out _ (mem_val HV.out HV2.out hx)) (by rw [fst_of HV.out]; exact HR1.out.symm) (by rw [fst_of HV2.out]; exact HR2.out.symm)).mono ?_; rintro e w4 ⟨v3, cs3, ks, rfl, hown3, hE3, hval3, hks, hmem⟩; obtain ⟨A3, c3, rfl⟩ := coins_shape hown3; have HO3 := Lib.hid hown3; have HE3 := Lib.hid hE3; have HV3 := Lib.hid hval3; have HK := Lib.hid hks; have HM := Lib.hid hmem; clear hown3 hE3 hval3 hks hmem) | (go_at_call 162; refine (iBackCoins A3 cs3.length c3 cs3 _ rfl (by have := coal_len HV3.out (HN.out) (HN2.out) HM.out HK.out; omega) (own_at HO3.out).1 (fun x hx => back_bound HV3.out (by simp; rw [HN.out, HN2.out]; exact hn) (fun y hy => HZB.out _ (mem_val HV.out HV2.out hy)) x hx)).mono ?_; rintro e w5 ⟨v5, rfl, ho5, hE5⟩; have HO5 := Lib.hid ho5; have HE5 := Lib.hid hE5; clear ho5 hE5))
      go_ret2
      unfold RetAddOf
      rw [if_pos ⟨HR1.out.symm, HR2.out.symm⟩]
      refine ⟨v5, _, rfl, ⟨ks, HK.out, fun s => (HM.out s).trans (ofS_plain HV.out HV2.out s), by rw [HV3.out, coal_plain, List.map_append, HV.out, HV2.out]⟩, row_low HO5.out ?_, ((HE.out.trans' HE2.out).trans' (Ext.drewN' _ _)).trans' (HE3.out.trans' HE5.out)⟩
      have := HE.out.size; have := HE2.out.size; have := HE3.out.size; simp at this ⊢; omega
end Go.Proofs.YtfafiahefjimdaaGreatDoor

namespace Go.Proofs.YtfafiahefjimdaaGreatDoor
open Go Go.RowKit

theorem totalP_nil (s : ByteArray) : totalP s [] = 0 := rfl
theorem totalP_cons (s : ByteArray) (x : ByteArray × Int) (l : List (ByteArray × Int)) : totalP s (x :: l) = (if x.1 = s then x.2 else 0) + totalP s l := by
  unfold totalP
  by_cases h : x.1 = s <;> simp [h]
theorem totalP_append (s : ByteArray) (l m : List (ByteArray × Int)) : totalP s (l ++ m) = totalP s l + totalP s m := by
  induction l with
  | nil => simp [totalP_nil]
  | cons x l ih => rw [List.cons_append, totalP_cons, totalP_cons, ih]; omega
theorem totalP_perm (s : ByteArray) {l m : List (ByteArray × Int)} (h : l.Perm m) : totalP s l = totalP s m := by
  induction h with
  | nil => rfl
  | cons x _ ih => rw [totalP_cons, totalP_cons, ih]
  | swap x y l => rw [totalP_cons, totalP_cons, totalP_cons, totalP_cons]; omega
  | trans _ _ h1 h2 => rw [h1, h2]
theorem totalP_none {s : ByteArray} {l : List (ByteArray × Int)} (h : ∀ x ∈ l, x.1 ≠ s) : totalP s l = 0 := by
  induction l with
  | nil => rfl
  | cons x l ih => rw [totalP_cons, if_neg (h x (by simp)), ih (fun y hy => h y (by simp [hy]))]; omega
theorem totalP_bound' (s : ByteArray) {l : List (ByteArray × Int)} {m : Nat} (h : ∀ x ∈ l, x.2.natAbs ≤ m) : (totalP s l).natAbs ≤ l.length * m := by
  induction l with
  | nil => simp [totalP_nil]
  | cons x l ih =>
    have h1 := h x (by simp)
    have h2 := ih (fun y hy => h y (by simp [hy]))
    rw [totalP_cons, List.length_cons, Nat.add_mul]
    split <;> omega
theorem isAdd_perm {l m r : List (ByteArray × Int)} (hp : l.Perm m) (h : IsAdd l r) : IsAdd m r := by
  obtain ⟨ks, h1, h2, rfl⟩ := h
  refine ⟨ks, h1, fun s => (h2 s).trans ⟨?_, ?_⟩, ?_⟩
  · rintro ⟨x, hx, e⟩; exact ⟨x, hp.mem_iff.1 hx, e⟩
  · rintro ⟨x, hx, e⟩; exact ⟨x, hp.mem_iff.2 hx, e⟩
  · unfold coalP; congr 1; funext s; rw [totalP_perm s hp]

theorem totalP_bound (s : ByteArray) {l : List (ByteArray × Int)} (h : ∀ x ∈ l, x.2.natAbs ≤ 1125899906842624) : (totalP s l).natAbs ≤ l.length * 1125899906842624 := totalP_bound' s h
theorem strict_sorted {r : List (ByteArray × Int)} (h : r.Pairwise fun a b => keyLt a.1 b.1 = true) : sortedB (r.map Prod.fst) = true :=
  sortedB_true fun j hj => by
    have := List.pairwise_iff_getElem.1 h j (j + 1) (by simp at hj; omega) (by simpa using hj) (by omega)
    simpa using keyLt_asymm this

/-- What has been summed of a part of the coins. -/
def TotI (p out : List (ByteArray × Int)) : Prop :=
  out.Pairwise (fun a b => keyLt a.1 b.1 = true) ∧ (∀ s, (∃ y ∈ out, y.1 = s) ↔ ∃ x ∈ p, x.1 = s) ∧ ∀ y ∈ out, y.2 = totalP y.1 p
theorem totI_nil : TotI [] [] := ⟨List.Pairwise.nil, fun s => by simp, fun y hy => by simp at hy⟩
theorem totI_new {p out : List (ByteArray × Int)} {c : ByteArray × Int} (h : TotI p out) (hlt : ∀ y ∈ out, keyLt y.1 c.1 = true) : TotI (p ++ [c]) (out ++ [c]) := by
  obtain ⟨h1, h2, h3⟩ := h
  refine ⟨?_, fun s => ?_, fun y hy => ?_⟩
  · rw [List.pairwise_append]
    exact ⟨h1, by simp, fun a ha b hb => by simp at hb; subst hb; exact hlt a ha⟩
  · have := h2 s
    simp only [List.mem_append, List.mem_singleton, or_and_right, exists_or]
    rw [this]
  · rw [List.mem_append, List.mem_singleton] at hy
    rw [totalP_append, totalP_cons, totalP_nil]
    rcases hy with hy | rfl
    · rw [if_neg (fun e => by have := hlt y hy; rw [← e, keyLt_irrefl] at this; cases this), h3 y hy]; omega
    · rw [if_pos rfl, totalP_none (fun x hx e => by
        obtain ⟨y', hy', e'⟩ := (h2 y.1).2 ⟨x, hx, e⟩
        have := hlt y' hy'; rw [e', keyLt_irrefl] at this; cases this)]; omega
theorem totI_more {p ini : List (ByteArray × Int)} {s : ByteArray} {y z : Int} (h : TotI p (ini ++ [(s, y)])) : TotI (p ++ [(s, z)]) (ini ++ [(s, y + z)]) := by
  obtain ⟨h1, h2, h3⟩ := h
  rw [List.pairwise_append] at h1
  refine ⟨?_, fun t => ?_, fun x hx => ?_⟩
  · rw [List.pairwise_append]
    exact ⟨h1.1, by simp, fun a ha b hb => by simp at hb; subst hb; exact h1.2.2 a ha (s, y) (by simp)⟩
  · have := h2 t
    simp only [List.mem_append, List.mem_singleton, or_and_right, exists_or, exists_eq_left] at this ⊢
    rw [this]
    constructor
    · exact Or.inl
    · rintro (h | h)
      · exact h
      · exact this.1 (Or.inr h)
  · rw [List.mem_append, List.mem_singleton] at hx
    rw [totalP_append, totalP_cons, totalP_nil]
    rcases hx with hx | rfl
    · have := h1.2.2 x hx (s, y) (by simp)
      rw [if_neg (fun e => by dsimp at e this; rw [← e, keyLt_irrefl] at this; cases this), h3 x (by simp [hx])]; omega
    · have := h3 (s, y) (by simp)
      dsimp at this ⊢; rw [if_pos rfl, ← this]; omega
/-- The last one's name is not that of the next coin, which is not below: all are below it. -/
theorem totI_lt {p ini : List (ByteArray × Int)} {x c : ByteArray × Int} (h : TotI p (ini ++ [x])) (hp : ∀ y ∈ p, le y.1 c.1) (hne : x.1 ≠ c.1) : ∀ y ∈ ini ++ [x], keyLt y.1 c.1 = true := by
  obtain ⟨h1, h2, _⟩ := h
  obtain ⟨x', hx', e⟩ := (h2 x.1).1 ⟨x, by simp, rfl⟩
  have hlt : keyLt x.1 c.1 = true := key_lt_of_le_ne (e ▸ hp x' hx') hne
  intro y hy
  rw [List.mem_append, List.mem_singleton] at hy
  rcases hy with hy | rfl
  · rw [List.pairwise_append] at h1
    exact keyLt_trans (h1.2.2 y hy x (by simp)) hlt
  · exact hlt
theorem totI_end {l out : List (ByteArray × Int)} (h : TotI l out) : IsAdd l (out.filter fun x => x.2 ≠ 0) := by
  obtain ⟨h1, h2, h3⟩ := h
  refine ⟨out.map Prod.fst, ?_, fun s => ?_, ?_⟩
  · rw [List.pairwise_map]; exact h1
  · rw [← h2 s]; simp
  · unfold coalP
    rw [List.filterMap_map]
    clear h1 h2
    induction out with
    | nil => rfl
    | cons y out ih =>
      have hy := h3 y (by simp)
      rw [List.filter_cons, List.filterMap_cons, ih (fun x hx => h3 x (by simp [hx]))]
      simp only [Function.comp]
      rw [← hy]
      by_cases h0 : y.2 = 0 <;> simp [h0]
theorem totI_bound {p out : List (ByteArray × Int)} (h : TotI p out) (hb : ∀ x ∈ p, x.2.natAbs ≤ 1125899906842624) (hl : p.length ≤ 50) : ∀ y ∈ out, y.2.natAbs ≤ 56294995342131200 := by
  intro y hy
  rw [h.2.2 y hy]
  have := totalP_bound y.1 hb
  omega
theorem totI_len {p out : List (ByteArray × Int)} (h : TotI p out) : out.length ≤ p.length := by
  have h1 : (out.map Prod.fst).length ≤ (p.map Prod.fst).length := List.Nodup.length_le_of_subset (by
    have := h.1
    rw [← List.pairwise_map (f := Prod.fst) (R := fun a b => keyLt a b = true)] at this
    exact this.imp fun {a b} h e => by subst e; rw [keyLt_irrefl] at h; cases h) (fun s hs => by
    obtain ⟨y, hy, e⟩ := List.mem_map.1 hs
    obtain ⟨x, hx, e'⟩ := (h.2.1 s).1 ⟨y, hy, e⟩
    exact List.mem_map.2 ⟨x, hx, e'⟩)
  simpa using h1

/-- In order, without doubles: the sums are the coins themselves that are not 0. -/
theorem isAdd_self {l : List (ByteArray × Int)} (h : l.Pairwise fun a b => keyLt a.1 b.1 = true) : TotI l l := by
  refine ⟨h, fun s => Iff.rfl, fun y hy => ?_⟩
  induction l with
  | nil => simp at hy
  | cons x l ih =>
    rw [List.pairwise_cons] at h
    rw [totalP_cons]
    rw [List.mem_cons] at hy
    rcases hy with rfl | hy
    · rw [if_pos rfl, totalP_none (fun z hz e => by have := h.1 z hz; rw [e, keyLt_irrefl] at this; cases this)]; omega
    · rw [if_neg (fun e => by have := h.1 y hy; rw [e, keyLt_irrefl] at this; cases this), ← ih h.2 hy]; omega

/-- r has the sums of l, in order, none of them 0. -/
def SumsTo (l r : List (ByteArray × Int)) : Prop := r.Pairwise (fun a b => keyLt a.1 b.1 = true) ∧ (∀ y ∈ r, y.2 ≠ 0) ∧ ∀ s, totalP s r = totalP s l
theorem tot_get {r : List (ByteArray × Int)} (h : r.Pairwise fun a b => keyLt a.1 b.1 = true) {y : ByteArray × Int} (hy : y ∈ r) : totalP y.1 r = y.2 := ((isAdd_self h).2.2 y hy).symm
theorem tot_iff {r : List (ByteArray × Int)} (h : r.Pairwise fun a b => keyLt a.1 b.1 = true) (hz : ∀ y ∈ r, y.2 ≠ 0) (s : ByteArray) : totalP s r ≠ 0 ↔ ∃ y ∈ r, y.1 = s := by
  constructor
  · intro hn
    refine Classical.byContradiction fun k => hn (totalP_none fun x hx e => k ⟨x, hx, e⟩)
  · rintro ⟨y, hy, rfl⟩
    rw [tot_get h hy]; exact hz y hy
theorem tot_self {r : List (ByteArray × Int)} (h : r.Pairwise fun a b => keyLt a.1 b.1 = true) : r = (r.map Prod.fst).map fun s => (s, totalP s r) := by
  rw [List.map_map]
  have : ∀ y ∈ r, ((fun s => (s, totalP s r)) ∘ Prod.fst) y = id y := fun y hy => by simp only [Function.comp]; rw [tot_get h hy]; rfl
  rw [List.map_congr_left this, List.map_id]
theorem strict_nodup {ks : List ByteArray} (h : ks.Pairwise fun a b => keyLt a b = true) : ks.Nodup := h.imp fun {a b} h e => by subst e; rw [keyLt_irrefl] at h; cases h
theorem strict_keys {r : List (ByteArray × Int)} (h : r.Pairwise fun a b => keyLt a.1 b.1 = true) : (r.map Prod.fst).Pairwise fun a b => keyLt a b = true := List.pairwise_map.2 h
theorem keys_eq {r r' : List ByteArray} (h : r.Pairwise fun a b => keyLt a b = true) (h' : r'.Pairwise fun a b => keyLt a b = true) (hm : ∀ s, s ∈ r ↔ s ∈ r') : r = r' :=
  asc_unique (key := id) ((List.perm_ext_iff_of_nodup (strict_nodup h) (strict_nodup h')).2 hm) (h.imp fun h => le_of_lt h) h'
theorem totals_unique {r r' : List (ByteArray × Int)} (h : r.Pairwise fun a b => keyLt a.1 b.1 = true) (hz : ∀ y ∈ r, y.2 ≠ 0) (h' : r'.Pairwise fun a b => keyLt a.1 b.1 = true) (hz' : ∀ y ∈ r', y.2 ≠ 0)
    (ht : ∀ s, totalP s r = totalP s r') : r = r' := by
  rw [tot_self h, tot_self h', keys_eq (strict_keys h) (strict_keys h') (fun s => by
    have e1 := tot_iff h hz s
    have e2 := tot_iff h' hz' s
    rw [ht s] at e1
    simp only [List.mem_map]
    exact e1.symm.trans e2)]
  exact List.map_congr_left fun s _ => by rw [ht s]
theorem sums_unique {l l' r r' : List (ByteArray × Int)} (h : SumsTo l r) (h' : SumsTo l' r') (ht : ∀ s, totalP s l = totalP s l') : r = r' :=
  totals_unique h.1 h.2.1 h'.1 h'.2.1 fun s => by rw [h.2.2, h'.2.2, ht]
theorem coalP_cons (k : ByteArray) (ks : List ByteArray) (l : List (ByteArray × Int)) : coalP (k :: ks) l = (if totalP k l = 0 then [] else [(k, totalP k l)]) ++ coalP ks l := by
  unfold coalP
  rw [List.filterMap_cons]
  by_cases h : totalP k l = 0 <;> simp [h]
theorem coalP_mem {ks : List ByteArray} {l : List (ByteArray × Int)} {y : ByteArray × Int} (h : y ∈ coalP ks l) : y.1 ∈ ks ∧ y.2 = totalP y.1 l ∧ y.2 ≠ 0 := by
  unfold coalP at h
  obtain ⟨s, hs, he⟩ := List.mem_filterMap.1 h
  split at he
  · cases he
  · injection he with he; subst he; exact ⟨hs, rfl, by assumption⟩
theorem coalP_total {ks : List ByteArray} (l : List (ByteArray × Int)) (hk : ks.Nodup) (s : ByteArray) : (s ∈ ks → totalP s (coalP ks l) = totalP s l) ∧ (s ∉ ks → totalP s (coalP ks l) = 0) := by
  induction ks with
  | nil => exact ⟨fun h => absurd h (by simp), fun _ => rfl⟩
  | cons k ks ih =>
    rw [List.nodup_cons] at hk
    obtain ⟨i1, i2⟩ := ih hk.2
    rw [coalP_cons, totalP_append]
    by_cases e : s = k
    · subst e
      refine ⟨fun _ => ?_, fun h => absurd (by simp) h⟩
      rw [i2 hk.1]
      by_cases h0 : totalP s l = 0
      · rw [if_pos h0, totalP_nil, h0]; rfl
      · rw [if_neg h0, totalP_cons, if_pos rfl, totalP_nil]; omega
    · have h1 : totalP s (if totalP k l = 0 then [] else [(k, totalP k l)]) = 0 := by
        split
        · rfl
        · rw [totalP_cons, if_neg (fun h => e h.symm), totalP_nil]; rfl
      rw [h1]
      refine ⟨fun h => ?_, fun h => ?_⟩
      · rw [List.mem_cons] at h
        rw [i1 (h.resolve_left e)]; omega
      · rw [List.mem_cons] at h
        rw [i2 (fun k => h (Or.inr k))]; rfl
theorem isAdd_sums {l r : List (ByteArray × Int)} (h : IsAdd l r) : SumsTo l r := by
  obtain ⟨ks, h1, h2, rfl⟩ := h
  refine ⟨?_, fun y hy => (coalP_mem hy).2.2, fun s => ?_⟩
  · clear h2
    induction ks with
    | nil => exact List.Pairwise.nil
    | cons k ks ih =>
      rw [List.pairwise_cons] at h1
      rw [coalP_cons, List.pairwise_append]
      refine ⟨by split <;> simp, ih h1.2, fun a ha b hb => ?_⟩
      have hb' := (coalP_mem hb).1
      split at ha
      · simp at ha
      · simp at ha; subst ha; exact h1.1 _ hb'
  · by_cases hs : s ∈ ks
    · exact (coalP_total l (strict_nodup h1) s).1 hs
    · rw [(coalP_total l (strict_nodup h1) s).2 hs, totalP_none fun x hx e => hs ((h2 s).2 ⟨x, hx, e⟩)]
theorem isAdd_len {l r : List (ByteArray × Int)} (h : IsAdd l r) : r.length ≤ l.length := by
  obtain ⟨ks, h1, h2, rfl⟩ := h
  have e1 : (coalP ks l).length ≤ ks.length := List.length_filterMap_le _ _
  have e2 : ks.length ≤ (l.map Prod.fst).length := List.Nodup.length_le_of_subset (strict_nodup h1) (fun s hs => by
    obtain ⟨x, hx, e⟩ := (h2 s).1 hs
    exact List.mem_map.2 ⟨x, hx, e⟩)
  simp at e2; omega
theorem isAdd_size {l r : List (ByteArray × Int)} {m : Nat} (h : IsAdd l r) (hs : ∀ x ∈ l, x.1.size ≤ m) : ∀ y ∈ r, y.1.size ≤ m := by
  obtain ⟨ks, h1, h2, rfl⟩ := h
  intro y hy
  obtain ⟨x, hx, e⟩ := (h2 y.1).1 (coalP_mem hy).1
  rw [← e]; exact hs x hx
theorem isAdd_bound {l r : List (ByteArray × Int)} {m : Nat} (h : IsAdd l r) (hb : ∀ x ∈ l, x.2.natAbs ≤ m) : ∀ y ∈ r, y.2.natAbs ≤ l.length * m := by
  obtain ⟨ks, h1, h2, rfl⟩ := h
  intro y hy
  rw [(coalP_mem hy).2.1]
  exact totalP_bound' y.1 hb
theorem isAdd_sorted {l r : List (ByteArray × Int)} (h : IsAdd l r) : sortedB (r.map Prod.fst) = true := strict_sorted (isAdd_sums h).1
end Go.Proofs.YtfafiahefjimdaaGreatDoor
