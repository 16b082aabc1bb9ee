/-
  Contracts of pdqsort's parts at coins in order; pdqsort; sort.Sort; Coins.Sort.
-/
import Derived.Test.YtagfbefgcijegaaGreatDoorSort2
import Derived.Test.YtagfbefgcijegaaGreatDoorLen
namespace Go.Proofs.YtagfbefgcijegaaGreatDoor
open Go Go.RowKit

/-- Coins in order. -/
def InOrd (L : List Co) : Prop := ∀ p q, (hq : q < L.length) → (h : p < q) → keyLt (Co.s L[q]) (Co.s L[p]) = false
theorem inOrd_of {L : List Co} (h : L.Pairwise fun a b => keyLt (Co.s a) (Co.s b) = true) : InOrd L := fun p q hq hpq => keyLt_asymm (List.pairwise_iff_getElem.1 h p q (by omega) hq hpq)
/-- Two numbers handed back; the world has drawn. -/
def RetAB (a b : Nat) (w : World) (e : Ending) (w' : World) : Prop := e = .returned (.tuple #[.int .i64 a, .int .i64 b]) ∧ ∃ q, w' = w.drewN q

set_option maxRecDepth 100000 in
set_option maxHeartbeats 2000000 in
theorem order2 (g n c : Nat) (L : List Co) (rest : List Value) (w : World) (h : Row w g L rest) (hl : L.length = n) (hO : InOrd L) (a b : Nat) (hab : a < b) (hb : b < n) (p : Value) :
    Calls Tryz.prog 217 #[.iface 71 (.slice (some ⟨g, 0, none⟩) n c), .int .i64 a, .int .i64 b, p] w (RetAB a b w) := by
  have HC := Lib.hid (show Calls Tryz.prog 291 #[.slice (some ⟨g, 0, none⟩) n c, .int .i64 b, .int .i64 a] w (RetQ (.bool false) w) by
    have := cLess g n c L rest w h hl b a hb (by omega)
    rwa [hO a b (by omega) hab] at this)
  clear h hO
  go_enter Tryz.func217, Tryz.ntmps217
  go_wp2_with (first | (go_at_call 291; refine HC.out.mono ?_; rintro e w' ⟨rfl, q, rfl⟩))
  go_ret2
  exact ⟨rfl, q, rfl⟩

set_option maxRecDepth 100000 in
set_option maxHeartbeats 2000000 in
theorem median (g n c : Nat) (L : List Co) (rest : List Value) (w : World) (h : Row w g L rest) (hl : L.length = n) (hO : InOrd L) (x y z : Nat) (hxy : x < y) (hyz : y < z) (hz : z < n) (p : Value) :
    Calls Tryz.prog 208 #[.iface 71 (.slice (some ⟨g, 0, none⟩) n c), .int .i64 x, .int .i64 y, .int .i64 z, p] w (RetQ (.int .i64 y) w) := by
  have hd : ∀ (u v : Nat), u < v → v < n → ∀ k, Calls Tryz.prog 217 #[.iface 71 (.slice (some ⟨g, 0, none⟩) n c), .int .i64 u, .int .i64 v, p] (w.drewN k) (RetAB u v w) := by
    intro u v huv hv k
    refine (order2 g n c L rest _ (h.drewN k) hl hO u v huv hv p).mono ?_
    rintro e w' ⟨rfl, q, rfl⟩
    exact ⟨rfl, dr2 _ _ _⟩
  have H0 := Lib.hid (order2 g n c L rest w h hl hO x y hxy (by omega) p)
  have H1 := Lib.hid (hd x y hxy (by omega))
  have H2 := Lib.hid (hd y z hyz hz)
  clear h hO hd
  go_enter Tryz.func208, Tryz.ntmps208
  go_wp2_with (first | (go_at_call 217; (with_reducible refine H0.out.mono ?_); rintro e w' ⟨rfl, q, rfl⟩) | (go_at_call 217; (with_reducible refine (H1.out _).mono ?_); rintro e w' ⟨rfl, q, rfl⟩) | (go_at_call 217; (with_reducible refine (H2.out _).mono ?_); rintro e w' ⟨rfl, q, rfl⟩))
  go_ret
  exact ⟨rfl, _, rfl⟩

theorem Row.ext {w w' : World} {g : Nat} {L : List Co} {rest : List Value} (h : Row w g L rest) (e : Ext w w') : Row w' g L rest := Blk.ext h e

set_option maxRecDepth 100000 in
set_option maxHeartbeats 2000000 in
theorem choosePivot (g n c : Nat) (L : List Co) (rest : List Value) (w : World) (h : Row w g L rest) (hl : L.length = n) (hO : InOrd L) (h12 : 12 < n) (h50 : n < 50) :
    Calls Tryz.prog 190 #[.iface 71 (.slice (some ⟨g, 0, none⟩) n c), .int .i64 0, .int .i64 n] w
      fun e w' => ∃ k : Nat, e = .returned (.tuple #[.int .i64 k, .int .i64 1]) ∧ Ext w w' := by
  have hq : ((n : Int)).tdiv 4 = ((n / 4 : Nat) : Int) := by rw [Int.tdiv_eq_ediv_of_nonneg (by omega)]; rfl
  obtain ⟨m, hm⟩ : ∃ m, m = n / 4 := ⟨_, rfl⟩
  rw [← hm] at hq
  have hm1 : 3 ≤ m := by omega
  have hm2 : m * 3 < n := by omega
  have hm3 : m ≤ 12 := by omega
  have H1 := Lib.hid (fun W (hW : Row W g L rest) p => median g n c L rest W hW hl hO m (m * 2) (m * 3) (by omega) (by omega) hm2 p)
  have HR := Lib.hid h
  have d8 : decide ((8 : Int) ≤ (n : Int)) = true := by simp; omega
  have d50 : decide ((50 : Int) ≤ (n : Int)) = false := by simp; omega
  clear h hO hm
  go_enter Tryz.func190, Tryz.ntmps190
  go_wp2_with (first | (go_at_call 208; refine (H1.out _ (HR.out.ext (Ext.alloc' _ _)) _).mono ?_; rintro e w' ⟨rfl, q, rfl⟩))
  go_ret2
  exact ⟨_, rfl, ((Ext.alloc' w _).trans' (Ext.drewN' _ _))⟩
set_option maxRecDepth 100000 in
set_option maxHeartbeats 2000000 in
theorem partialIns (g n c : Nat) (L : List Co) (rest : List Value) (w : World) (h : Row w g L rest) (hl : L.length = n) (hO : InOrd L) (h12 : 12 < n) (hn : n ≤ 1000000) :
    Calls Tryz.prog 192 #[.iface 71 (.slice (some ⟨g, 0, none⟩) n c), .int .i64 0, .int .i64 n] w (RetQ (.bool true) w) := by
  have HC := Lib.hid (fun (j k : Nat) (hj : j + 1 < n) => show Calls Tryz.prog 291 #[.slice (some ⟨g, 0, none⟩) n c, .int .i64 ((j : Int) + 1), .int .i64 j] (w.drewN k) (RetQ (.bool false) w) by
    have := cLess g n c L rest (w.drewN k) (h.drewN k) hl (j + 1) j hj (by omega)
    rw [hO j (j + 1) (by omega) (by omega)] at this
    refine Calls.mono this ?_
    rintro e w' ⟨rfl, q, rfl⟩
    exact ⟨rfl, dr2 _ _ _⟩)
  clear h hO
  go_enter Tryz.func192, Tryz.ntmps192
  go_wp2
  go_loopw [7, 8] (fun i j wz => i = .int .i64 1 ∧ j = .int .i64 0 ∧ w = wz) (fun _ _ _ => 0)
  case atStart => exact ⟨rfl, rfl, rfl⟩
  case round =>
    obtain ⟨rfl, rfl, rfl⟩ := hrel
    go_wp2
    go_loopw [7] (fun i wz => ∃ (j q : Nat), j + 1 ≤ n ∧ i = .int .i64 ((j : Int) + 1) ∧ wz = w.drewN q) (fun i _ => n - (intOf i).toNat)
    case atStart => exact ⟨0, 0, by omega, rfl, rfl⟩
    case round =>
      obtain ⟨j, q, hj, rfl, rfl⟩ := hrel
      by_cases hlt : j + 1 < n
      · have b1 : (j : Int) + 1 < (n : Int) := by omega
        have HC1 := Lib.hid (HC.out j q hlt)
        go_wp2_with (first | (go_at_call 291; (with_reducible refine HC1.out.mono ?_); rintro e w' ⟨rfl, q2, rfl⟩))
        go_roundw
        case rel => exact ⟨j + 1, q2, by omega, by go_num, rfl⟩
        case measure => simp [intOf]; omega
      · obtain rfl : j + 1 = n := by omega
        go_wp2
        go_ret
        exact ⟨rfl, _, rfl⟩

/-- Sorted coins of the same block, in w'. -/
def RetSort (g : Nat) (L0 : List Co) (rest : List Value) (w : World) (r : Value) (e : Ending) (w' : World) : Prop :=
  e = .returned r ∧ ∃ L, Row w' g L rest ∧ Only g w w' ∧ L.Perm L0 ∧ L.Pairwise fun a b => le (Co.s a) (Co.s b)

set_option maxRecDepth 100000 in
set_option maxHeartbeats 2000000 in
theorem pdqSmall (g n c lim : Nat) (L : List Co) (rest : List Value) (w : World) (h : Row w g L rest) (hl : L.length = n) (h12 : n ≤ 12) :
    Calls Tryz.prog 174 #[.iface 71 (.slice (some ⟨g, 0, none⟩) n c), .int .i64 0, .int .i64 n, .int .i64 lim] w (RetSort g L rest w (.tuple #[])) := by
  have H := Lib.hid (insSort g n c L rest w h hl (by omega))
  clear h
  have d12 : decide ((n : Int) ≤ 12) = true := by simp; omega
  go_enter Tryz.func174, Tryz.ntmps174
  go_wp2
  go_loopw [1, 2, 3, 8, 9] (fun a b l x y wz => a = .int .i64 0 ∧ b = .int .i64 n ∧ l = .int .i64 lim ∧ x = .bool true ∧ y = .bool true ∧ w = wz) (fun _ _ _ _ _ _ => 0)
  case atStart => exact ⟨rfl, rfl, rfl, rfl, rfl, rfl⟩
  case round =>
    obtain ⟨rfl, rfl, rfl, rfl, rfl, rfl⟩ := hrel
    go_wp2_with (first | (go_at_call 187; (with_reducible refine H.out.mono ?_); rintro e w' ⟨rfl, hh⟩; have H2 := Lib.hid hh; clear hh))
    go_end0
    exact ⟨rfl, H2.out⟩

set_option maxRecDepth 100000 in
set_option maxHeartbeats 2000000 in
theorem pdqOrd (g n c lim : Nat) (L : List Co) (rest : List Value) (w : World) (h : Row w g L rest) (hl : L.length = n) (hO : InOrd L) (h12 : 12 < n) (h50 : n < 50) (hlim : lim ≠ 0) :
    Calls Tryz.prog 174 #[.iface 71 (.slice (some ⟨g, 0, none⟩) n c), .int .i64 0, .int .i64 n, .int .i64 lim] w (RetSort g L rest w (.tuple #[])) := by
  have H1 := Lib.hid (choosePivot g n c L rest w h hl hO h12 h50)
  have H2 := Lib.hid (fun W (hW : Row W g L rest) => partialIns g n c L rest W hW hl hO h12 (by omega))
  have HR := Lib.hid h
  have HO := Lib.hid (show L.Pairwise fun a b => le (Co.s a) (Co.s b) from List.pairwise_iff_getElem.2 fun p q _ hq hpq => hO p q hq hpq)
  clear h hO
  have d12 : decide ((n : Int) ≤ 12) = false := by simp; omega
  have dl : ((lim : Int) == 0) = false := by simp; omega
  go_enter Tryz.func174, Tryz.ntmps174
  go_wp2
  go_loopw [1, 2, 3, 8, 9] (fun a b l x y wz => a = .int .i64 0 ∧ b = .int .i64 n ∧ l = .int .i64 lim ∧ x = .bool true ∧ y = .bool true ∧ w = wz) (fun _ _ _ _ _ _ => 0)
  case atStart => exact ⟨rfl, rfl, rfl, rfl, rfl, rfl⟩
  case round =>
    obtain ⟨rfl, rfl, rfl, rfl, rfl, rfl⟩ := hrel
    go_wp2_with (first | (go_at_call 190; (with_reducible refine H1.out.mono ?_); rintro e w' ⟨k, rfl, hh⟩; have HE := Lib.hid hh; clear hh) | (go_at_call 192; refine (H2.out _ (HR.out.ext HE.out)).mono ?_; rintro e w2 ⟨rfl, q, rfl⟩))
    go_end0
    exact ⟨rfl, L, (HR.out.ext HE.out).drewN _, (Only.of_ext HE.out).drewN _, List.Perm.refl _, HO.out⟩

theorem pdq (g n c lim : Nat) (L : List Co) (rest : List Value) (w : World) (h : Row w g L rest) (hl : L.length = n) (hO : n ≤ 12 ∨ n < 50 ∧ InOrd L) (hlim : lim ≠ 0) :
    Calls Tryz.prog 174 #[.iface 71 (.slice (some ⟨g, 0, none⟩) n c), .int .i64 0, .int .i64 n, .int .i64 lim] w (RetSort g L rest w (.tuple #[])) := by
  by_cases h12 : n ≤ 12
  · exact pdqSmall g n c lim L rest w h hl h12
  · rcases hO with hO | ⟨h50, hO⟩
    · exact absurd hO h12
    · exact pdqOrd g n c lim L rest w h hl hO (by omega) h50 hlim

theorem bitLen_pos : ∀ n : Fin 64, 1 ≤ n.val → Lib.bitLen n.val ≠ 0 := by decide +kernel

set_option maxRecDepth 100000 in
set_option maxHeartbeats 2000000 in
theorem sortSort (g n c : Nat) (L : List Co) (rest : List Value) (w : World) (h : Row w g L rest) (hl : L.length = n) (hO : n ≤ 12 ∨ n < 50 ∧ InOrd L) (h2 : 2 ≤ n) :
    Calls Tryz.prog 156 #[.iface 71 (.slice (some ⟨g, 0, none⟩) n c)] w (RetSort g L rest w (.tuple #[])) := by
  have H := Lib.hid (pdq g n c (Lib.bitLen n) L rest w h hl hO (bitLen_pos ⟨n, by omega⟩ (by show 1 ≤ n; omega)))
  have HB := Lib.hid (show Calls Tryz.prog 173 #[.int .u64 n] w fun e w' => e = .returned (.int .i64 (Lib.bitLen n)) ∧ w' = w by
    have := bLen (n : Int) w (by omega) (by omega); simpa using this)
  have d1 : decide ((n : Int) ≤ 1) = false := by simp; omega
  have hwr : IntKind.u64.wrap (n : Int) = (n : Int) := by rw [IntKind.wrap_u64]; omega
  clear h hO
  go_enter Tryz.func156, Tryz.ntmps156
  go_wp2_with (first | (go_at_call 290; refine (cLen _ n c _).mono ?_; rintro e w' ⟨rfl, rfl⟩) | (go_at_call 173; (with_reducible refine HB.out.mono ?_); rintro e w' ⟨rfl, rfl⟩) | (go_at_call 174; (with_reducible refine H.out.mono ?_); rintro e w' ⟨rfl, hh⟩; have H2 := Lib.hid hh; clear hh))
  go_end0
  exact ⟨rfl, H2.out⟩

set_option maxRecDepth 100000 in
set_option maxHeartbeats 2000000 in
/-- Coins.Sort of a row of the call's own. -/
theorem tSort (g n c : Nat) (L : List Co) (rest : List Value) (w : World) (h : Row w g L rest) (hl : L.length = n) (hO : n ≤ 12 ∨ n < 50 ∧ InOrd L) :
    Calls Tryz.prog 126 #[.slice (some ⟨g, 0, none⟩) n c] w (RetSort g L rest w (.slice (some ⟨g, 0, none⟩) n c)) := by
  by_cases h2 : 2 ≤ n
  · have H := Lib.hid (sortSort g n c L rest w h hl hO h2)
    have d1 : decide ((1 : Int) < (n : Int)) = true := by simp; omega
    clear h hO
    go_enter Tryz.func126, Tryz.ntmps126
    go_wp2_with (first | (go_at_call 156; (with_reducible refine H.out.mono ?_); rintro e w' ⟨rfl, hh⟩; have H2 := Lib.hid hh; clear hh))
    go_ret
    exact ⟨rfl, H2.out⟩
  · have HR := Lib.hid h
    have HP := Lib.hid (show L.Pairwise fun a b => le (Co.s a) (Co.s b) from List.pairwise_iff_getElem.2 fun p q _ hq hpq => by omega)
    have d1 : decide ((1 : Int) < (n : Int)) = false := by simp; omega
    clear h hO
    go_enter Tryz.func126, Tryz.ntmps126
    go_wp2
    go_ret
    exact ⟨rfl, L, HR.out, Only.refl _ _, List.Perm.refl _, HP.out⟩
end Go.Proofs.YtagfbefgcijegaaGreatDoor
