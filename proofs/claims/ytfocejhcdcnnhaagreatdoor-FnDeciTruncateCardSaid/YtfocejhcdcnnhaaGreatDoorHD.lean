/-
  The sorting of decimal coins: up to 12 of them, or up to 49 in order.
  DecCoins.Sort of a row of the call's own, DecCoins.Equal; impl.DecSort, DecEqual.
  The specification's DeciSame; impl.DecEqual and DecSort.
-/
import Derived.Test.YtfocejhcdcnnhaaGreatDoorGY
import Derived.Test.YtfocejhcdcnnhaaGreatDoorHC
namespace Go.Proofs.YtfocejhcdcnnhaaGreatDoor.DS
open Go Go.RowKit


/-- The coins of a block of the call's own. -/
def Row (w : World) (g : Nat) (L : List Co) (rest : List Value) : Prop := Blk w g 106 (flat2 (L.map Co.pair) ++ rest)
theorem Row.drewN {w : World} {g : Nat} {L : List Co} {rest : List Value} (h : Row w g L rest) (n : Nat) : Row (w.drewN n) g L rest := h
theorem Row.drew {w : World} {g : Nat} {L : List Co} {rest : List Value} (h : Row w g L rest) : Row w.drew g L rest := h
theorem Row.cell {w : World} {g : Nat} {L : List Co} {rest : List Value} (h : Row w g L rest) (j : Nat) (hj : j < L.length) :
    w.cell? ⟨g, j * 2, none⟩ = some (.string (Co.s L[j])) ∧ w.cell? ⟨g, j * 2 + 1, none⟩ = some (.pointer (some ⟨Co.b L[j], 0, none⟩)) := by
  have hl : (flat2 (L.map Co.pair)).length = L.length * 2 := by rw [flat2_length]; simp
  have hg := flat2_get (L.map Co.pair) j (by simpa using hj)
  have h1 : j * 2 < (flat2 (L.map Co.pair)).length := by omega
  have h2 : j * 2 + 1 < (flat2 (L.map Co.pair)).length := by omega
  constructor
  · rw [Blk.cell h, List.getElem?_append_left h1, hg.1]; simp [Co.pair]
  · rw [Blk.cell h, List.getElem?_append_left h2, hg.2]; simp [Co.pair]
theorem Row.swp {w : World} {g : Nat} {L : List Co} {rest : List Value} (h : Row w g L rest) (j : Nat) (hj : j + 1 < L.length) :
    Row ((((w.setCell ⟨g, (j + 1) * 2, none⟩ (.string (Co.s L[j]))).setCell ⟨g, (j + 1) * 2 + 1, none⟩ (.pointer (some ⟨Co.b L[j], 0, none⟩))).setCell ⟨g, j * 2, none⟩ (.string (Co.s L[j + 1]))).setCell ⟨g, j * 2 + 1, none⟩ (.pointer (some ⟨Co.b L[j + 1], 0, none⟩))) g (swp L j) rest := by
  have := (((Blk.set_ h ((j + 1) * 2) (.string (Co.s L[j]))).set_ ((j + 1) * 2 + 1) (.pointer (some ⟨Co.b L[j], 0, none⟩))).set_ (j * 2) (.string (Co.s L[j + 1]))).set_ (j * 2 + 1) (.pointer (some ⟨Co.b L[j + 1], 0, none⟩))
  unfold Row
  have hl : (flat2 (L.map Co.pair)).length = L.length * 2 := by rw [flat2_length]; simp
  rw [swp_map, swp_flat _ _ (by simpa using hj)]
  have e : ∀ (xs ys : List Value) (i : Nat) (u : Value), i < xs.length → (xs ++ ys).set i u = xs.set i u ++ ys := fun xs ys i u hi => by rw [List.set_append, if_pos hi]
  rw [e _ _ _ _ (by omega), e _ _ _ _ (by simp; omega), e _ _ _ _ (by simp; omega), e _ _ _ _ (by simp; omega)] at this
  simpa [Co.pair] using this

theorem cLen (a : Option Addr) (n c : Nat) (w : World) : Calls Tryz.prog 334 #[.slice a n c] w fun e w' => e = .returned (.int .i64 n) ∧ w' = w := by
  go_enter Tryz.func334, Tryz.ntmps334
  go_wp2
  go_ret
  exact ⟨rfl, rfl⟩

set_option maxRecDepth 100000 in
theorem cLess (g n c : Nat) (L : List Co) (rest : List Value) (w : World) (h : Row w g L rest) (hl : L.length = n) (i j : Nat) (hi : i < n) (hj : j < n) :
    Calls Tryz.prog 335 #[.slice (some ⟨g, 0, none⟩) n c, .int .i64 i, .int .i64 j] w (RetQ (.bool (keyLt (Co.s (L[i]'(by omega))) (Co.s (L[j]'(by omega))))) w) := by
  obtain ⟨s, hs⟩ : ∃ s, s = Co.s (L[i]'(by omega)) := ⟨_, rfl⟩
  obtain ⟨t, ht⟩ : ∃ t, t = Co.s (L[j]'(by omega)) := ⟨_, rfl⟩
  have c0 : w.cell? ⟨g, i * 2, none⟩ = some (.string s) := by rw [hs]; exact (h.cell i (by omega)).1
  have c1 : w.cell? ⟨g, j * 2, none⟩ = some (.string t) := by rw [ht]; exact (h.cell j (by omega)).1
  rw [← hs, ← ht]
  have b0 : (0 : Int) ≤ (i : Int) := by omega
  have b1 : (i : Int) < (n : Int) := by omega
  have b2 : (0 : Int) ≤ (j : Int) := by omega
  have b3 : (j : Int) < (n : Int) := by omega
  clear h hs ht hl hi hj
  have F := Lib.hid (show keyLt s t = Op.bytesLess s.toList t.toList from rfl)
  go_enter Tryz.func335, Tryz.ntmps335
  go_wp2
  go_quiet (fail)
  go_wp2
  go_ret
  rw [F.out]; exact ⟨rfl, by first | exact dr1 _ _ | exact dr2 _ _ _⟩

set_option maxRecDepth 100000 in
set_option maxHeartbeats 1000000 in
theorem cSwap (g n c : Nat) (L : List Co) (rest : List Value) (w : World) (h : Row w g L rest) (hl : L.length = n) (j : Nat) (hj : j + 1 < n) :
    Calls Tryz.prog 337 #[.slice (some ⟨g, 0, none⟩) n c, .int .i64 ((j : Int) + 1), .int .i64 j] w fun e w' => e = .returned (.tuple #[]) ∧ Row w' g (swp L j) rest ∧ Only g w w' := by
  obtain ⟨s, hs⟩ : ∃ s, s = Co.s (L[j]'(by omega)) := ⟨_, rfl⟩
  obtain ⟨t, ht⟩ : ∃ t, t = Co.s (L[j + 1]'(by omega)) := ⟨_, rfl⟩
  obtain ⟨x, hx⟩ : ∃ x, x = Co.b (L[j]'(by omega)) := ⟨_, rfl⟩
  obtain ⟨y, hy⟩ : ∃ y, y = Co.b (L[j + 1]'(by omega)) := ⟨_, rfl⟩
  have c0 : w.cell? ⟨g, j * 2, none⟩ = some (.string s) := by rw [hs]; exact (h.cell j (by omega)).1
  have c1 : w.cell? ⟨g, (j + 1) * 2, none⟩ = some (.string t) := by rw [ht]; exact (h.cell (j + 1) (by omega)).1
  have d0 : w.cell? ⟨g, j * 2 + 1, none⟩ = some (.pointer (some ⟨x, 0, none⟩)) := by rw [hx]; exact (h.cell j (by omega)).2
  have d1 : w.cell? ⟨g, (j + 1) * 2 + 1, none⟩ = some (.pointer (some ⟨y, 0, none⟩)) := by rw [hy]; exact (h.cell (j + 1) (by omega)).2
  have f0 : w.frozen? ⟨g, j * 2, none⟩ = false := Blk.frozen h _
  have f1 : w.frozen? ⟨g, (j + 1) * 2, none⟩ = false := Blk.frozen h _
  have f2 : w.frozen? ⟨g, j * 2 + 1, none⟩ = false := Blk.frozen h _
  have f3 : w.frozen? ⟨g, (j + 1) * 2 + 1, none⟩ = false := Blk.frozen h _
  have b0 : (0 : Int) ≤ (j : Int) := by omega
  have b1 : (j : Int) < (n : Int) := by omega
  have b2 : (j : Int) + 1 < (n : Int) := by omega
  have HR := Lib.hid h; have HS := Lib.hid hs; have HT := Lib.hid ht; have HX := Lib.hid hx; have HY := Lib.hid hy; have HL := Lib.hid hl
  clear h hs ht hx hy
  go_enter Tryz.func337, Tryz.ntmps337
  go_wp2
  go_region
  all_goals go_wp2
  all_goals go_end0
  all_goals exact ⟨rfl, by rw [HS.out, HT.out, HX.out, HY.out]; exact (HR.out.swp j (by omega)).drew, ((((Only.refl g w).set_ _ _).set_ _ _).set_ _ _ |>.set_ _ _).drew'⟩


/-- Coins as a sort.Interface. -/
def sortV (g n c : Nat) : Value := .iface 72 (.slice (some ⟨g, 0, none⟩) n c)

set_option maxRecDepth 100000 in
set_option maxHeartbeats 1000000 in
theorem insSort (g n c : Nat) (L0 : List Co) (rest : List Value) (w : World) (h : Row w g L0 rest) (hl : L0.length = n) (hn : n ≤ 1000000) :
    Calls Tryz.prog 224 #[.iface 72 (.slice (some ⟨g, 0, none⟩) n c), .int .i64 0, .int .i64 n] w
      fun e w' => e = .returned (.tuple #[]) ∧ ∃ L, Row w' g L rest ∧ Only g w w' ∧ L.Perm L0 ∧ L.Pairwise fun a b => le (Co.s a) (Co.s b) := by
  have HR := Lib.hid h; have HL := Lib.hid hl
  clear h hl
  go_enter Tryz.func224, Tryz.ntmps224
  go_wp2
  go_loopw [6] (fun i wz => ∃ (k : Nat) (L : List Co), 1 ≤ k ∧ (k ≤ n ∨ k = 1) ∧ i = .int .i64 k ∧ Row wz g L rest ∧ Only g w wz ∧ InsO Co.s L0 L k) (fun i _ => n + 1 - (intOf i).toNat)
  case atStart => exact ⟨1, L0, Nat.le_refl _, Or.inr rfl, rfl, HR.out, Only.refl _ _, insO_start _⟩
  case round =>
    obtain ⟨k, L, hk1, hk, rfl, hb, ho, hins⟩ := hrel
    have HBz := Lib.hid hb; have HOz := Lib.hid ho; have HIz := Lib.hid hins
    clear hb ho hins
    have HLn := Lib.hid (show L.length = n by rw [HIz.out.1.length_eq, HL.out])
    by_cases hlt : k < n
    · go_wp2
      go_loopw [7] (fun i wz' => ∃ (j : Nat) (L' : List Co), i = .int .i64 j ∧ Row wz' g L' rest ∧ Only g w wz' ∧ InsI Co.s L0 L' k j) (fun i _ => (intOf i).toNat)
      case atStart => exact ⟨k, L, rfl, HBz.out, HOz.out, insO_in HIz.out (by rw [HLn.out]; exact hlt)⟩
      case round =>
        obtain ⟨j, L', rfl, hb, ho, hins⟩ := hrel
        have HBy := Lib.hid hb; have HOy := Lib.hid ho; have HIy := Lib.hid hins
        clear hb ho hins HBz HOz HIz HLn
        have HLy := Lib.hid (show L'.length = n by rw [HIy.out.1.length_eq, HL.out])
        rcases j with _ | j
        · go_wp2
          go_roundw
          case rel => exact ⟨k + 1, L', by omega, by omega, by go_num, HBy.out, HOy.out, insI_out0 HIy.out⟩
          case measure => simp [intOf]; omega
        · have hjl : j + 1 < L'.length := by have := HIy.out.2.1; have := HIy.out.2.2.1; omega
          have hjm : j + 1 < n := by rw [← HLy.out]; exact hjl
          obtain ⟨r, hr⟩ : ∃ r, r = keyLt (Co.s L'[j + 1]) (Co.s L'[j]) := ⟨_, rfl⟩
          have HC := Lib.hid (show Calls Tryz.prog 335 #[.slice (some ⟨g, 0, none⟩) n c, .int .i64 ((j : Int) + 1), .int .i64 j] wr (RetQ (.bool r) wr) by
            rw [hr]; exact cLess g n c L' rest wr HBy.out HLy.out (j + 1) j hjm (by omega))
          have HS := Lib.hid hr; clear hr
          cases r
          · go_wp2_with (first | (go_at_call 335; refine HC.out.mono ?_; rintro e w' ⟨rfl, q, rfl⟩))
            go_roundw
            case rel => exact ⟨k + 1, L', by omega, by omega, by go_num, HBy.out.drewN _, HOy.out.drewN _, insI_out HIy.out hjl HS.out.symm⟩
            case measure => simp [intOf]; omega
          · go_wp2_with (first | (go_at_call 335; refine HC.out.mono ?_; rintro e w' ⟨rfl, q, rfl⟩) | (go_at_call 337; refine (cSwap g n c L' rest _ (HBy.out.drewN _) HLy.out j hjm).mono ?_; rintro e w' ⟨rfl, hrow, honly⟩; have R := Lib.hid (And.intro hrow honly); clear hrow honly))
            go_roundw
            case rel => exact ⟨j, swp L' j, rfl, R.out.1, (HOy.out.drewN _).trans' R.out.2, insI_swp HIy.out hjl HS.out.symm⟩
            case measure => simp [intOf]
    · go_wp2
      go_end0
      obtain ⟨hP, hS⟩ := insO_end HIz.out (by rw [HLn.out]; omega)
      exact ⟨rfl, L, HBz.out, HOz.out, hP, hS⟩

set_option maxRecDepth 100000 in
set_option maxHeartbeats 2000000 in
theorem order2 (g n c : Nat) (L : List Co) (rest : List Value) (w : World) (h : Row w g L rest) (hl : L.length = n) (hO : InOrd L) (a b : Nat) (hab : a < b) (hb : b < n) (p : Value) :
    Calls Tryz.prog 276 #[.iface 72 (.slice (some ⟨g, 0, none⟩) n c), .int .i64 a, .int .i64 b, p] w (RetAB a b w) := by
  have HC := Lib.hid (show Calls Tryz.prog 335 #[.slice (some ⟨g, 0, none⟩) n c, .int .i64 b, .int .i64 a] w (RetQ (.bool false) w) by
    have := cLess g n c L rest w h hl b a hb (by omega)
    rwa [hO a b (by omega) hab] at this)
  clear h hO
  go_enter Tryz.func276, Tryz.ntmps276
  go_wp2_with (first | (go_at_call 335; refine HC.out.mono ?_; rintro e w' ⟨rfl, q, rfl⟩))
  go_ret2
  exact ⟨rfl, q, rfl⟩

set_option maxRecDepth 100000 in
set_option maxHeartbeats 2000000 in
theorem median (g n c : Nat) (L : List Co) (rest : List Value) (w : World) (h : Row w g L rest) (hl : L.length = n) (hO : InOrd L) (x y z : Nat) (hxy : x < y) (hyz : y < z) (hz : z < n) (p : Value) :
    Calls Tryz.prog 259 #[.iface 72 (.slice (some ⟨g, 0, none⟩) n c), .int .i64 x, .int .i64 y, .int .i64 z, p] w (RetQ (.int .i64 y) w) := by
  have hd : ∀ (u v : Nat), u < v → v < n → ∀ k, Calls Tryz.prog 276 #[.iface 72 (.slice (some ⟨g, 0, none⟩) n c), .int .i64 u, .int .i64 v, p] (w.drewN k) (RetAB u v w) := by
    intro u v huv hv k
    refine (order2 g n c L rest _ (h.drewN k) hl hO u v huv hv p).mono ?_
    rintro e w' ⟨rfl, q, rfl⟩
    exact ⟨rfl, dr2 _ _ _⟩
  have H0 := Lib.hid (order2 g n c L rest w h hl hO x y hxy (by omega) p)
  have H1 := Lib.hid (hd x y hxy (by omega))
  have H2 := Lib.hid (hd y z hyz hz)
  clear h hO hd
  go_enter Tryz.func259, Tryz.ntmps259
  go_wp2_with (first | (go_at_call 276; (with_reducible refine H0.out.mono ?_); rintro e w' ⟨rfl, q, rfl⟩) | (go_at_call 276; (with_reducible refine (H1.out _).mono ?_); rintro e w' ⟨rfl, q, rfl⟩) | (go_at_call 276; (with_reducible refine (H2.out _).mono ?_); rintro e w' ⟨rfl, q, rfl⟩))
  go_ret
  exact ⟨rfl, _, rfl⟩

theorem Row.ext {w w' : World} {g : Nat} {L : List Co} {rest : List Value} (h : Row w g L rest) (e : Ext w w') : Row w' g L rest := Blk.ext h e

set_option maxRecDepth 100000 in
set_option maxHeartbeats 2000000 in
theorem choosePivot (g n c : Nat) (L : List Co) (rest : List Value) (w : World) (h : Row w g L rest) (hl : L.length = n) (hO : InOrd L) (h12 : 12 < n) (h50 : n < 50) :
    Calls Tryz.prog 227 #[.iface 72 (.slice (some ⟨g, 0, none⟩) n c), .int .i64 0, .int .i64 n] w
      fun e w' => ∃ k : Nat, e = .returned (.tuple #[.int .i64 k, .int .i64 1]) ∧ Ext w w' := by
  have hq : ((n : Int)).tdiv 4 = ((n / 4 : Nat) : Int) := by rw [Int.tdiv_eq_ediv_of_nonneg (by omega)]; rfl
  obtain ⟨m, hm⟩ : ∃ m, m = n / 4 := ⟨_, rfl⟩
  rw [← hm] at hq
  have hm1 : 3 ≤ m := by omega
  have hm2 : m * 3 < n := by omega
  have hm3 : m ≤ 12 := by omega
  have H1 := Lib.hid (fun W (hW : Row W g L rest) p => median g n c L rest W hW hl hO m (m * 2) (m * 3) (by omega) (by omega) hm2 p)
  have HR := Lib.hid h
  have d8 : decide ((8 : Int) ≤ (n : Int)) = true := by simp; omega
  have d50 : decide ((50 : Int) ≤ (n : Int)) = false := by simp; omega
  clear h hO hm
  go_enter Tryz.func227, Tryz.ntmps227
  go_wp2_with (first | (go_at_call 259; refine (H1.out _ (HR.out.ext (Ext.alloc' _ _)) _).mono ?_; rintro e w' ⟨rfl, q, rfl⟩))
  go_ret2
  exact ⟨_, rfl, ((Ext.alloc' w _).trans' (Ext.drewN' _ _))⟩
set_option maxRecDepth 100000 in
set_option maxHeartbeats 2000000 in
theorem partialIns (g n c : Nat) (L : List Co) (rest : List Value) (w : World) (h : Row w g L rest) (hl : L.length = n) (hO : InOrd L) (h12 : 12 < n) (hn : n ≤ 1000000) :
    Calls Tryz.prog 229 #[.iface 72 (.slice (some ⟨g, 0, none⟩) n c), .int .i64 0, .int .i64 n] w (RetQ (.bool true) w) := by
  have HC := Lib.hid (fun (j k : Nat) (hj : j + 1 < n) => show Calls Tryz.prog 335 #[.slice (some ⟨g, 0, none⟩) n c, .int .i64 ((j : Int) + 1), .int .i64 j] (w.drewN k) (RetQ (.bool false) w) by
    have := cLess g n c L rest (w.drewN k) (h.drewN k) hl (j + 1) j hj (by omega)
    rw [hO j (j + 1) (by omega) (by omega)] at this
    refine Calls.mono this ?_
    rintro e w' ⟨rfl, q, rfl⟩
    exact ⟨rfl, dr2 _ _ _⟩)
  clear h hO
  go_enter Tryz.func229, Tryz.ntmps229
  go_wp2
  go_loopw [7, 8] (fun i j wz => i = .int .i64 1 ∧ j = .int .i64 0 ∧ w = wz) (fun _ _ _ => 0)
  case atStart => exact ⟨rfl, rfl, rfl⟩
  case round =>
    obtain ⟨rfl, rfl, rfl⟩ := hrel
    go_wp2
    go_loopw [7] (fun i wz => ∃ (j q : Nat), j + 1 ≤ n ∧ i = .int .i64 ((j : Int) + 1) ∧ wz = w.drewN q) (fun i _ => n - (intOf i).toNat)
    case atStart => exact ⟨0, 0, by omega, rfl, rfl⟩
    case round =>
      obtain ⟨j, q, hj, rfl, rfl⟩ := hrel
      by_cases hlt : j + 1 < n
      · have b1 : (j : Int) + 1 < (n : Int) := by omega
        have HC1 := Lib.hid (HC.out j q hlt)
        go_wp2_with (first | (go_at_call 335; (with_reducible refine HC1.out.mono ?_); rintro e w' ⟨rfl, q2, rfl⟩))
        go_roundw
        case rel => exact ⟨j + 1, q2, by omega, by go_num, rfl⟩
        case measure => simp [intOf]; omega
      · obtain rfl : j + 1 = n := by omega
        go_wp2
        go_ret
        exact ⟨rfl, _, rfl⟩

/-- Sorted coins of the same block, in w'. -/
def RetSort (g : Nat) (L0 : List Co) (rest : List Value) (w : World) (r : Value) (e : Ending) (w' : World) : Prop :=
  e = .returned r ∧ ∃ L, Row w' g L rest ∧ Only g w w' ∧ L.Perm L0 ∧ L.Pairwise fun a b => le (Co.s a) (Co.s b)

set_option maxRecDepth 100000 in
set_option maxHeartbeats 2000000 in
theorem pdqSmall (g n c lim : Nat) (L : List Co) (rest : List Value) (w : World) (h : Row w g L rest) (hl : L.length = n) (h12 : n ≤ 12) :
    Calls Tryz.prog 187 #[.iface 72 (.slice (some ⟨g, 0, none⟩) n c), .int .i64 0, .int .i64 n, .int .i64 lim] w (RetSort g L rest w (.tuple #[])) := by
  have H := Lib.hid (insSort g n c L rest w h hl (by omega))
  clear h
  have d12 : decide ((n : Int) ≤ 12) = true := by simp; omega
  go_enter Tryz.func187, Tryz.ntmps187
  go_wp2
  go_loopw [1, 2, 3, 8, 9] (fun a b l x y wz => a = .int .i64 0 ∧ b = .int .i64 n ∧ l = .int .i64 lim ∧ x = .bool true ∧ y = .bool true ∧ w = wz) (fun _ _ _ _ _ _ => 0)
  case atStart => exact ⟨rfl, rfl, rfl, rfl, rfl, rfl⟩
  case round =>
    obtain ⟨rfl, rfl, rfl, rfl, rfl, rfl⟩ := hrel
    go_wp2_with (first | (go_at_call 224; (with_reducible refine H.out.mono ?_); rintro e w' ⟨rfl, hh⟩; have H2 := Lib.hid hh; clear hh))
    go_end0
    exact ⟨rfl, H2.out⟩

set_option maxRecDepth 100000 in
set_option maxHeartbeats 2000000 in
theorem pdqOrd (g n c lim : Nat) (L : List Co) (rest : List Value) (w : World) (h : Row w g L rest) (hl : L.length = n) (hO : InOrd L) (h12 : 12 < n) (h50 : n < 50) (hlim : lim ≠ 0) :
    Calls Tryz.prog 187 #[.iface 72 (.slice (some ⟨g, 0, none⟩) n c), .int .i64 0, .int .i64 n, .int .i64 lim] w (RetSort g L rest w (.tuple #[])) := by
  have H1 := Lib.hid (choosePivot g n c L rest w h hl hO h12 h50)
  have H2 := Lib.hid (fun W (hW : Row W g L rest) => partialIns g n c L rest W hW hl hO h12 (by omega))
  have HR := Lib.hid h
  have HO := Lib.hid (show L.Pairwise fun a b => le (Co.s a) (Co.s b) from List.pairwise_iff_getElem.2 fun p q _ hq hpq => hO p q hq hpq)
  clear h hO
  have d12 : decide ((n : Int) ≤ 12) = false := by simp; omega
  have dl : ((lim : Int) == 0) = false := by simp; omega
  go_enter Tryz.func187, Tryz.ntmps187
  go_wp2
  go_loopw [1, 2, 3, 8, 9] (fun a b l x y wz => a = .int .i64 0 ∧ b = .int .i64 n ∧ l = .int .i64 lim ∧ x = .bool true ∧ y = .bool true ∧ w = wz) (fun _ _ _ _ _ _ => 0)
  case atStart => exact ⟨rfl, rfl, rfl, rfl, rfl, rfl⟩
  case round =>
    obtain ⟨rfl, rfl, rfl, rfl, rfl, rfl⟩ := hrel
    go_wp2_with (first | (go_at_call 227; (with_reducible refine H1.out.mono ?_); rintro e w' ⟨k, rfl, hh⟩; have HE := Lib.hid hh; clear hh) | (go_at_call 229; refine (H2.out _ (HR.out.ext HE.out)).mono ?_; rintro e w2 ⟨rfl, q, rfl⟩))
    go_end0
    exact ⟨rfl, L, (HR.out.ext HE.out).drewN _, (Only.of_ext HE.out).drewN _, List.Perm.refl _, HO.out⟩

theorem pdq (g n c lim : Nat) (L : List Co) (rest : List Value) (w : World) (h : Row w g L rest) (hl : L.length = n) (hO : n ≤ 12 ∨ n < 50 ∧ InOrd L) (hlim : lim ≠ 0) :
    Calls Tryz.prog 187 #[.iface 72 (.slice (some ⟨g, 0, none⟩) n c), .int .i64 0, .int .i64 n, .int .i64 lim] w (RetSort g L rest w (.tuple #[])) := by
  by_cases h12 : n ≤ 12
  · exact pdqSmall g n c lim L rest w h hl h12
  · rcases hO with hO | ⟨h50, hO⟩
    · exact absurd hO h12
    · exact pdqOrd g n c lim L rest w h hl hO (by omega) h50 hlim

set_option maxRecDepth 100000 in
set_option maxHeartbeats 2000000 in
theorem sortSort (g n c : Nat) (L : List Co) (rest : List Value) (w : World) (h : Row w g L rest) (hl : L.length = n) (hO : n ≤ 12 ∨ n < 50 ∧ InOrd L) (h2 : 2 ≤ n) :
    Calls Tryz.prog 142 #[.iface 72 (.slice (some ⟨g, 0, none⟩) n c)] w (RetSort g L rest w (.tuple #[])) := by
  have H := Lib.hid (pdq g n c (Lib.bitLen n) L rest w h hl hO (bitLen_pos ⟨n, by omega⟩ (by show 1 ≤ n; omega)))
  have HB := Lib.hid (show Calls Tryz.prog 186 #[.int .u64 n] w fun e w' => e = .returned (.int .i64 (Lib.bitLen n)) ∧ w' = w by
    have := bLen (n : Int) w (by omega) (by omega); simpa using this)
  have d1 : decide ((n : Int) ≤ 1) = false := by simp; omega
  have hwr : IntKind.u64.wrap (n : Int) = (n : Int) := by rw [IntKind.wrap_u64]; omega
  clear h hO
  go_enter Tryz.func142, Tryz.ntmps142
  go_wp2_with (first | (go_at_call 334; refine (cLen _ n c _).mono ?_; rintro e w' ⟨rfl, rfl⟩) | (go_at_call 186; (with_reducible refine HB.out.mono ?_); rintro e w' ⟨rfl, rfl⟩) | (go_at_call 187; (with_reducible refine H.out.mono ?_); rintro e w' ⟨rfl, hh⟩; have H2 := Lib.hid hh; clear hh))
  go_end0
  exact ⟨rfl, H2.out⟩

set_option maxRecDepth 100000 in
set_option maxHeartbeats 2000000 in
/-- Coins.Sort of a row of the call's own. -/
theorem tSort (g n c : Nat) (L : List Co) (rest : List Value) (w : World) (h : Row w g L rest) (hl : L.length = n) (hO : n ≤ 12 ∨ n < 50 ∧ InOrd L) :
    Calls Tryz.prog 110 #[.slice (some ⟨g, 0, none⟩) n c] w (RetSort g L rest w (.slice (some ⟨g, 0, none⟩) n c)) := by
  by_cases h2 : 2 ≤ n
  · have H := Lib.hid (sortSort g n c L rest w h hl hO h2)
    have d1 : decide ((1 : Int) < (n : Int)) = true := by simp; omega
    clear h hO
    go_enter Tryz.func110, Tryz.ntmps110
    go_wp2_with (first | (go_at_call 142; (with_reducible refine H.out.mono ?_); rintro e w' ⟨rfl, hh⟩; have H2 := Lib.hid hh; clear hh))
    go_ret
    exact ⟨rfl, H2.out⟩
  · have HR := Lib.hid h
    have HP := Lib.hid (show L.Pairwise fun a b => le (Co.s a) (Co.s b) from List.pairwise_iff_getElem.2 fun p q _ hq hpq => by omega)
    have d1 : decide ((1 : Int) < (n : Int)) = false := by simp; omega
    clear h hO
    go_enter Tryz.func110, Tryz.ntmps110
    go_wp2
    go_ret
    exact ⟨rfl, L, HR.out, Only.refl _ _, List.Perm.refl _, HP.out⟩

end Go.Proofs.YtfocejhcdcnnhaaGreatDoor.DS

namespace Go.Proofs.YtfocejhcdcnnhaaGreatDoor
open Go Go.RowKit

/-- Few coins, or some in order: what the sorting is proved for. -/
def SortOK (l : List Co) : Prop := l.length ≤ 12 ∨ l.length < 50 ∧ InOrd l
theorem SortOK.len {l : List Co} (h : SortOK l) : l.length < 50 := by rcases h with h | h <;> omega
/-- The same row, sorted. -/
def RetSortD (base : Nat) (v : Value) (cs : List Co) (w : World) (e : Ending) (w' : World) : Prop :=
  e = .returned v ∧ ∃ L, DCoinsOwn w' base v L ∧ L.Perm cs ∧ (L.Pairwise fun a b => le (Co.s a) (Co.s b)) ∧ (∀ w0, Ext w0 w → w0.heap.size ≤ base → Ext w0 w') ∧ (∀ (lim b2 : Nat) (v2 : Value) (cs2 : List Co), (∀ g, v.ownBlock = some g → g < lim) → (lim ≤ b2 → DCoinsOwn w b2 v2 cs2 → DCoinsOwn w' b2 v2 cs2)) ∧ ∀ (lim b2 : Nat) (v2 : Value) (cs2 : List Co), (∀ g, v2.ownBlock = some g → g < lim) → lim ≤ base → DCoinsOwn w b2 v2 cs2 → DCoinsOwn w' b2 v2 cs2
theorem BigK.only {w w' : World} {b g : Nat} {z : Int} {t : TypeId} {cs : List Value} (h : BigK w b z) (e : Only g w w') (hj : Blk w g t cs) (h1 : 158 ≠ t := by decide) (h2 : 120 ≠ t := by decide) : BigK w' b z := by
  obtain ⟨x, c, hv⟩ := h
  exact ⟨x, c, hv.only e hj h1 h2⟩
set_option maxRecDepth 100000 in
set_option maxHeartbeats 1000000 in
theorem tdSortOwn (base : Nat) (v : Value) (cs : List Co) (w : World) (hn : SortOK cs) (h : DCoinsOwn w base v cs) :
    Calls Tryz.prog 110 #[v] w (RetSortD base v cs w) := by
  rcases h.1.2 with ⟨hv, h0⟩ | ⟨g, cap, cur, hv, hb, hh, hnc, hcm, hcs, ht⟩
  · subst hv
    have hnil : cs = [] := List.length_eq_zero_iff.1 h0
    subst hnil
    have HH := Lib.hid h
    clear h h0
    go_enter Tryz.func110, Tryz.ntmps110
    go_wp2
    go_ret
    exact ⟨rfl, [], HH.out, List.Perm.refl _, List.Pairwise.nil, fun w0 e0 _ => e0, fun _ _ _ _ _ _ h2 => h2, fun _ _ _ _ _ _ h2 => h2⟩
  · subst hv
    have hk : Blk w g 106 cur.toList := by unfold Blk; simpa using hh
    have hrow : DS.Row w g cs (cur.toList.drop (cs.length * 2)) := by
      unfold DS.Row
      rw [← ht, List.take_append_drop]; exact hk
    refine (DS.tSort g cs.length cap cs _ w hrow rfl hn).mono ?_
    rintro e w' ⟨rfl, L, hrow', honly, hperm, hpw⟩
    refine ⟨rfl, L, ⟨?_, fun x hx => (h.2 x (hperm.mem_iff.1 hx)).only honly hk⟩, hperm, hpw, fun w0 e0 hb0 => Only.ext e0 honly (Nat.le_trans hb0 hb), fun lim b2 v2 cs2 hlt hle h2 => ⟨?_, fun x hx => (h2.2 x hx).only honly hk⟩, fun lim b2 v2 cs2 hlt hle h2 => ⟨?_, fun x hx => (h2.2 x hx).only honly hk⟩⟩
    rotate_left
    · have hgl : g < lim := hlt g rfl
      refine ⟨h2.1.1, ?_⟩
      rcases h2.1.2 with k0 | ⟨g2, cap2, cur2, k1, k2, k3, k4⟩
      · exact Or.inl k0
      · exact Or.inr ⟨g2, cap2, cur2, k1, k2, (honly.block g2 (Array.getElem?_eq_some_iff.1 k3).1 (fun e => by injection e with e; omega)).trans k3, k4⟩
    · refine ⟨h2.1.1, ?_⟩
      rcases h2.1.2 with k0 | ⟨g2, cap2, cur2, k1, k2, k3, k4⟩
      · exact Or.inl k0
      · have hgl : g2 < lim := hlt g2 (by rw [k1]; rfl)
        exact Or.inr ⟨g2, cap2, cur2, k1, k2, (honly.block g2 (Array.getElem?_eq_some_iff.1 k3).1 (fun e => by injection e with e; omega)).trans k3, k4⟩
    have hll : L.length = cs.length := hperm.length_eq
    have hfl : (flat2 (L.map Co.pair)).length = cs.length * 2 := by rw [flat2_length]; simp [hll]
    refine ⟨by rw [hfl, hll], Or.inr ⟨g, cap, (flat2 (L.map Co.pair) ++ cur.toList.drop (cs.length * 2)).toArray, by rw [hll], hb, by have := hrow'; unfold DS.Row Blk at this; simpa using this, by omega, hcm, ?_, ?_⟩⟩
    · have : cur.toList.length = cap * 2 := by simpa using hcs
      rw [List.size_toArray, List.length_append, hfl, List.length_drop, this]; omega
    · rw [List.toList_toArray, hll, List.take_append_of_le_length (by omega), List.take_of_length_le (by omega)]

/-- A word handed back; what was there before the call is untouched. -/
def RetBE (b : Bool) (w0 : World) (e : Ending) (w' : World) : Prop := e = .returned (.bool b) ∧ Ext w0 w'
theorem vals_ne {x y : List (ByteArray × Int)} {j : Nat} (h1 : j < x.length) (h2 : j < y.length) (h : x[j] ≠ y[j]) : x ≠ y := fun e => h (by subst e; rfl)
theorem dcEq_iff {s t : ByteArray} {y z : Int} : dcEq s t y z = decide ((s, y) = (t, z)) := by
  unfold dcEq; rw [key_beq]
  by_cases h1 : s = t <;> by_cases h2 : y = z <;> simp [h1, h2]
set_option maxRecDepth 100000 in
set_option maxHeartbeats 2000000 in
theorem tdEqualCoins (b1 b2 lim : Nat) (v1 v2 : Value) (ca cb : List Co) (w0 w : World) (x y : List (ByteArray × Int)) (hla : SortOK ca) (hlb : SortOK cb) (h1 : DCoinsOwn w b1 v1 ca) (h2 : DCoinsOwn w b2 v2 cb)
    (hl1 : ∀ g, v1.ownBlock = some g → g < lim) (hle : lim ≤ b2) (e0 : Ext w0 w) (hs1 : w0.heap.size ≤ b1) (hs2 : w0.heap.size ≤ b2)
    (hx : ∀ L : List Co, L.Perm ca → (L.Pairwise fun a b => le (Co.s a) (Co.s b)) → L.map Co.val = x) (hy : ∀ L : List Co, L.Perm cb → (L.Pairwise fun a b => le (Co.s a) (Co.s b)) → L.map Co.val = y) (hxl : x.length = ca.length) (hyl : y.length = cb.length) :
    Calls Tryz.prog 68 #[v1, v2] w (RetBE (decide (x = y)) w0) := by
  have H1 := Lib.hid (tdSortOwn b1 v1 ca w hla h1)
  have H2 := Lib.hid (fun (W : World) (h : DCoinsOwn W b2 v2 cb) => tdSortOwn b2 v2 cb W hlb h)
  obtain ⟨A1, c1, rfl, hc1⟩ := down_cap h1.1
  obtain ⟨A2, c2, rfl, hc2⟩ := down_cap h2.1
  have HO2 := Lib.hid h2; have HL1 := Lib.hid hl1; have HLE := Lib.hid hle; have E0 := Lib.hid e0; have HS := Lib.hid (And.intro hs1 hs2); have HX := Lib.hid hx; have HY := Lib.hid hy; have HXL := Lib.hid hxl; have HYL := Lib.hid hyl
  obtain ⟨n, hn⟩ : ∃ n, n = ca.length := ⟨_, rfl⟩
  obtain ⟨m, hm⟩ : ∃ m, m = cb.length := ⟨_, rfl⟩
  have hla' := hla.len; have hlb' := hlb.len
  clear hla hlb
  rw [← hn] at H1 HL1 HXL hla' ⊢
  rw [← hm] at H2 HO2 HYL hlb' ⊢
  have HN := Lib.hid hn; have HM := Lib.hid hm
  clear h1 h2 hl1 hle e0 hs1 hs2 hx hy hxl hyl hc1 hc2 hn hm
  by_cases hnm : n = m
  · subst hnm
    obtain ⟨r, hr⟩ : ∃ r, r = decide (x = y) := ⟨_, rfl⟩
    rw [← hr]
    have HR := Lib.hid hr; clear hr
    go_enter Tryz.func68, Tryz.ntmps68
    go_wp2_with (fail)
    go_at_call 110
    refine H1.out.mono ?_
    rintro e w1 ⟨rfl, L1, ho1, hp1, hw1, hext1, hoth1, -⟩
    have HO1 := Lib.hid ho1; have HV1 := Lib.hid (HX.out L1 hp1 hw1); have E1 := Lib.hid (hext1 w0 E0.out HS.out.1); have HO21 := Lib.hid (hoth1 lim b2 _ _ HL1.out HLE.out HO2.out)
    clear ho1 hp1 hw1 hext1 hoth1
    have HLN1 := Lib.hid (show L1.length = n by have := congrArg List.length HV1.out; rw [List.length_map, HXL.out] at this; exact this)
    go_wp2_with (fail)
    go_at_call 110
    refine (H2.out _ HO21.out).mono ?_
    rintro e w2 ⟨rfl, L2, ho2, hp2, hw2, hext2, -, hoth2⟩
    have HV2 := Lib.hid (HY.out L2 hp2 hw2); have E2 := Lib.hid (hext2 w0 E1.out HS.out.2)
    have HLN2 := Lib.hid (show L2.length = n by have := congrArg List.length HV2.out; rw [List.length_map, HYL.out] at this; exact this)
    have HP1 := Lib.hid (dcoinsAt_own (hoth2 lim b1 _ _ HL1.out HLE.out HO1.out) HLN1.out)
    have HP2 := Lib.hid (dcoinsAt_own ho2 HLN2.out)
    clear ho2 hp2 hw2 hext2 hoth2 H1 H2
    go_wp2_with (fail)
    go_loopw [17] (fun i wr => ∃ (j : Nat), j ≤ n ∧ i = .int .i64 j ∧ Ext w2 wr ∧ ∀ p, (h1 : p < x.length) → (h2 : p < y.length) → p < j → x[p] = y[p]) (fun i _ => n - (intOf i).toNat)
    case atStart => exact ⟨0, Nat.zero_le _, rfl, Ext.refl _, fun p _ _ h => by omega⟩
    case round =>
      obtain ⟨j, hj, rfl, hE, hq⟩ := hrel
      have HQ := Lib.hid hq; have HE := Lib.hid hE; clear hq hE
      by_cases hlt : j < n
      · have hk1 : j < L1.length := by rw [HLN1.out]; exact hlt
        have hk2 : j < L2.length := by rw [HLN2.out]; exact hlt
        obtain ⟨s, hs⟩ : ∃ s, s = L1[j].s := ⟨_, rfl⟩
        obtain ⟨b, hb⟩ : ∃ b, b = L1[j].b := ⟨_, rfl⟩
        obtain ⟨z, hzz⟩ : ∃ z, z = L1[j].z := ⟨_, rfl⟩
        obtain ⟨t, ht⟩ : ∃ t, t = L2[j].s := ⟨_, rfl⟩
        obtain ⟨d, hd⟩ : ∃ d, d = L2[j].b := ⟨_, rfl⟩
        obtain ⟨u, huu⟩ : ∃ u, u = L2[j].z := ⟨_, rfl⟩
        obtain ⟨g, o, hA, hc⟩ := HP1.out.1 (by intro e; have := congrArg List.length e; simp at this; rw [this] at hk1; simp at hk1)
        obtain ⟨g', o', hA', hc'⟩ := HP2.out.1 (by intro e; have := congrArg List.length e; simp at this; rw [this] at hk2; simp at hk2)
        subst hA hA'
        have hck := hc j (by simpa using hk1)
        have hck' := hc' j (by simpa using hk2)
        have c0 : wr.cell? ⟨g, o + j * 2, none⟩ = some (.string s) := HE.out.cell' (by rw [hck.1, hs]; simp [Co.pair])
        have c1' : wr.cell? ⟨g, o + j * 2 + 1, none⟩ = some (.pointer (some ⟨b, 0, none⟩)) := HE.out.cell' (by rw [hck.2, hb]; simp [Co.pair])
        have d0 : wr.cell? ⟨g', o' + j * 2, none⟩ = some (.string t) := HE.out.cell' (by rw [hck'.1, ht]; simp [Co.pair])
        have d1 : wr.cell? ⟨g', o' + j * 2 + 1, none⟩ = some (.pointer (some ⟨d, 0, none⟩)) := HE.out.cell' (by rw [hck'.2, hd]; simp [Co.pair])
        have HB1 := Lib.hid (show BigK wr b z by rw [hb, hzz]; exact (HP1.out.2 _ (List.getElem_mem hk1)).ext HE.out)
        have HB2 := Lib.hid (show BigK wr d u by rw [hd, huu]; exact (HP2.out.2 _ (List.getElem_mem hk2)).ext HE.out)
        have hjx : j < x.length := by rw [HXL.out]; exact hlt
        have hjy : j < y.length := by rw [HYL.out]; exact hlt
        have HX1 := Lib.hid (show x[j] = (s, z) by have := HV1.out; subst this; simp [Co.val, hs, hzz])
        have HY1 := Lib.hid (show y[j] = (t, u) by have := HV2.out; subst this; simp [Co.val, ht, huu])
        obtain ⟨q, hq⟩ : ∃ q, q = dcEq s t z u := ⟨_, rfl⟩
        have HEQ := Lib.hid (fun (V : World) (e : Ext wr V) => tdEqual s t b d z u V (HB1.out.ext e) (HB2.out.ext e))
        rw [← hq] at HEQ
        have HQQ := Lib.hid hq
        have b0 : (0 : Int) ≤ (j : Int) := by omega
        have b1 : (j : Int) < (n : Int) := by omega
        clear hs hb hzz ht hd huu hc hc' hck hck' hq
        have lg := cell_lt c0; have lg' := cell_lt d0
        cases q
        · have hr : r = false := by
            rw [HR.out]; refine decide_eq_false (vals_ne hjx hjy ?_)
            have h := HQQ.out
            rw [dcEq_iff] at h
            rw [HX1.out, HY1.out]; exact of_decide_eq_false h.symm
          subst hr
          go_upto_region 8 with fail
          go_region_law (first | (go_simp; go_at_call 111; refine (HEQ.out _ (Ext.drewN' _ 1)).mono ?_; rintro e w5 ⟨rfl, hE⟩; have HE5 := Lib.hid (HE.out.trans' (Ext.undrew hE)); clear hE))
          all_goals go_wp2
          all_goals go_ret
          all_goals exact ⟨rfl, E2.out.trans' HE5.out⟩
        · have HXY := Lib.hid (show x[j] = y[j] by
            have h := HQQ.out
            rw [dcEq_iff] at h
            rw [HX1.out, HY1.out]; exact of_decide_eq_true h.symm)
          go_upto_region 8 with fail
          go_region_law (first | (go_simp; go_at_call 111; refine (HEQ.out _ (Ext.drewN' _ 1)).mono ?_; rintro e w5 ⟨rfl, hE⟩; have HE5 := Lib.hid (HE.out.trans' (Ext.undrew hE)); clear hE))
          all_goals go_wp2
          all_goals exact ⟨⟨j + 1, by omega, by go_num, HE5.out, fun p h1 h2 hp => by
            by_cases e : p = j
            · subst e; exact HXY.out
            · exact HQ.out p h1 h2 (by omega)⟩, by simp [intOf]; omega⟩
      · obtain rfl : j = n := by omega
        have hr : r = true := by
          rw [HR.out]; refine decide_eq_true (List.ext_getElem (by rw [HXL.out, HYL.out]) fun p h1 h2 => HQ.out p h1 h2 (by rw [HXL.out] at h1; exact h1))
        subst hr
        go_wp2
        go_ret
        exact ⟨rfl, E2.out.trans' HE.out⟩
  · have hr : decide (x = y) = false := decide_eq_false fun e => hnm (by rw [← HXL.out, ← HYL.out, e])
    rw [hr]
    clear hr
    have hi : ¬ (n : Int) = (m : Int) := by omega
    go_enter Tryz.func68, Tryz.ntmps68
    go_wp2
    go_ret
    exact ⟨rfl, E0.out⟩
end Go.Proofs.YtfocejhcdcnnhaaGreatDoor

namespace Go.Proofs.YtfocejhcdcnnhaaGreatDoor
open Go Go.RowKit

theorem sorted_is {l x : List (ByteArray × Int)} (hp : l.Perm x) (hl : l.Pairwise fun a b => le a.1 b.1) (hx : AscP x) : l = x := by
  refine List.Perm.eq_of_pairwise (le := fun a b => le a.1 b.1) ?_ hl (hx.imp fun {a b} h => le_of_lt h) hp
  intro a b ha hb h1 h2
  have e : a.1 = b.1 := keyLt_tri h2 h1
  have ha' := hp.mem_iff.1 ha
  have h3 := tot_get hx ha'
  have h4 := tot_get hx hb
  rw [e, h4] at h3
  exact Prod.ext e h3.symm
theorem co_sorted {L ca : List Co} {l x : List (ByteArray × Int)} (hv : ca.map Co.val = l) (hp : L.Perm ca) (hw : L.Pairwise fun a b => le (Co.s a) (Co.s b)) (hx : x.Perm l) (ha : AscP x) : L.map Co.val = x :=
  sorted_is ((hp.map _).trans (by rw [hv]; exact hx.symm)) (List.pairwise_map.2 hw) ha

/-- Few plain coins, or some in order. -/
def SortDP (l : List DP) : Prop := l.length ≤ 12 ∨ l.length < 50 ∧ AscP (l.map dval)
theorem SortDP.co {l : List DP} (h : SortDP l) {ca : List Co} (va : ca.map Co.val = l.map dval) : SortOK ca := by
  have hl := val_len va
  rcases h with h | ⟨h, h2⟩
  · exact Or.inl (by omega)
  · refine Or.inr ⟨by omega, inOrd_of ?_⟩
    rw [← va] at h2
    exact List.pairwise_map.1 h2
set_option maxRecDepth 100000 in
set_option maxHeartbeats 2000000 in
theorem iDecEqual (A B : Option Addr) (n c m d : Nat) (la lb : List DP) (w : World) (x y : List (ByteArray × Int)) (hla : la.length = n) (hlb : lb.length = m) (hn : SortDP la) (hm : SortDP lb) (hA : DPlainAt w A la) (hB : DPlainAt w B lb)
    (hza : ∀ x ∈ la, DecB x.2.1 x.2.2) (hzb : ∀ x ∈ lb, DecB x.2.1 x.2.2) (hT : Thr w) (hx : x.Perm (la.map dval)) (ax : AscP x) (hy : y.Perm (lb.map dval)) (ay : AscP y) :
    Calls Tryz.prog 34 #[.slice A n c, .slice B m d] w (RetE (.bool (decide (x = y))) w) := by
  have hn50 : n < 50 := by rw [← hla]; rcases hn with h | h <;> omega
  have hm50 : m < 50 := by rw [← hlb]; rcases hm with h | h <;> omega
  have H1 := Lib.hid (iDecCoins A n c la w hla (by omega) hA hza hT)
  have H2 := Lib.hid (fun (W : World) (e : Ext w W) => iDecCoins B m d lb W hlb (by omega) (hB.ext e) hzb (hT.ext e))
  have HSA := Lib.hid hn; have HSB := Lib.hid hm
  clear hn hm
  have HLA := Lib.hid hla; have HLB := Lib.hid hlb; have HX := Lib.hid (And.intro hx ax); have HY := Lib.hid (And.intro hy ay)
  clear hla hlb hA hB hza hzb hT hx ax hy ay
  obtain ⟨r, hr⟩ : ∃ r, r = decide (x = y) := ⟨_, rfl⟩
  rw [← hr]
  have HR := Lib.hid hr; clear hr
  go_enter Tryz.func34, Tryz.ntmps34
  go_wp2_with (fail)
  go_at_call 42
  refine H1.out.mono ?_
  rintro e w1 ⟨v1, ca, rfl, va, oa, hE1⟩
  have OA := Lib.hid oa; have VA := Lib.hid va; have HE1 := Lib.hid hE1
  clear va oa hE1
  go_wp2_with (fail)
  go_at_call 42
  refine (H2.out _ HE1.out).mono ?_
  rintro e w2 ⟨v2, cb, rfl, vb, ob, hE2⟩
  have HEQ := Lib.hid (tdEqualCoins w.heap.size w1.heap.size w1.heap.size v1 v2 ca cb w w2 x y (HSA.out.co VA.out) (HSB.out.co vb) (OA.out.ext hE2) ob (fun g hv => (OA.out.1.lt g hv).2) (Nat.le_refl _) (HE1.out.trans' hE2) (Nat.le_refl _) HE1.out.size
    (fun L hp hw => co_sorted VA.out hp hw HX.out.1 HX.out.2) (fun L hp hw => co_sorted vb hp hw HY.out.1 HY.out.2) (by rw [HX.out.1.length_eq, ← VA.out, List.length_map]) (by rw [HY.out.1.length_eq, ← vb, List.length_map]))
  rw [← HR.out] at HEQ
  clear vb ob hE2
  go_wp2_with (fail)
  go_at_call 68
  refine HEQ.out.mono ?_
  rintro e w3 ⟨rfl, hE3⟩
  have HE3 := Lib.hid hE3; clear hE3
  go_wp2
  go_ret
  exact ⟨rfl, HE3.out⟩
set_option maxRecDepth 100000 in
theorem dnEqual98 (a0 a1 a2 a3 b0 b1 b2 b3 : Int) (w : World) : (Op.equalIn 9998 37 (.agg #[.int .u64 a0, .int .u64 a1, .int .u64 a2, .int .u64 a3]) (.agg #[.int .u64 b0, .int .u64 b1, .int .u64 b2, .int .u64 b3])).run Tryz.prog w = .ok (a0 == b0 && (a1 == b1 && (a2 == b2 && a3 == b3))) w := by
  have u3 := Tryz.underlying35
  have ag3 := Tryz.isAgg35
  have z3 := Tryz.sizeOf35
  rw [show (9998 : Nat) = 9997 + 1 from rfl, Op.equalIn]
  simp only [Sem.run_bind, run_underlying Tryz.underlying37, Result.andThen_ok]
  simp only [Std.Legacy.Range.forIn_eq_forIn_range', Std.Legacy.Range.size, Nat.sub_zero, Nat.add_sub_cancel, Nat.div_one, List.range'_succ, List.range'_zero, List.forIn_cons, List.forIn_nil]
  go_simp
  by_cases h0 : a0 = b0 <;> by_cases h1 : a1 = b1 <;> by_cases h2 : a2 = b2 <;> by_cases h3 : a3 = b3 <;> simp [h0, h1, h2, h3]
theorem words_inj {M N : Nat} (hM : M < B64 ^ 4) (hN : N < B64 ^ 4) (h0 : dw M 0 = dw N 0) (h1 : dw M 1 = dw N 1) (h2 : dw M 2 = dw N 2) (h3 : dw M 3 = dw N 3) : M = N := by
  have k : ∀ i, dw M i = dw N i → D M i % B64 = D N i % B64 := fun i h => by unfold dw at h; injection h with _ h; omega
  have e4 : D M 4 = D N 4 := by rw [D_four hM, D_four hN]
  exact D_same (D_same (D_same (D_same e4 (k 3 h3)) (k 2 h2)) (k 1 h1)) (k 0 h0)
theorem dcell_inj {s t : ByteArray} {z u : Int} (hz : z.natAbs < B64 ^ 4) (hu : u.natAbs < B64 ^ 4) (h : dcell6 (s, z) = dcell6 (t, u)) : (s, z) = (t, u) := by
  simp only [dcell6, List.cons.injEq, and_true, Value.string.injEq, Value.bool.injEq] at h
  obtain ⟨h1, h2, h3, h4, h5, h6⟩ := h
  have hn := words_inj hz hu h3 h4 h5 h6
  have hsg : (z < 0) ↔ (u < 0) := by simpa using h2
  have : z = u := by omega
  rw [h1, this]
theorem cells_first {s t : ByteArray} {b c : Bool} {x0 x1 x2 x3 y0 y1 y2 y3 : Nat} (h : [Value.string s, .bool b, .int .u64 x0, .int .u64 x1, .int .u64 x2, .int .u64 x3] ≠ [Value.string t, .bool c, .int .u64 y0, .int .u64 y1, .int .u64 y2, .int .u64 y3]) :
    s ≠ t ∨ (s = t ∧ b ≠ c) ∨ (s = t ∧ b = c ∧ ¬ (((x0 : Int) == y0) && (((x1 : Int) == y1) && (((x2 : Int) == y2) && ((x3 : Int) == y3)))) = true) := by
  by_cases h1 : s = t
  · by_cases h2 : b = c
    · refine Or.inr (Or.inr ⟨h1, h2, fun hb => ?_⟩)
      simp at hb
      obtain ⟨k0, k1, k2, k3⟩ := hb
      exact h (by rw [h1, h2, k0, k1, k2, k3])
    · exact Or.inr (Or.inl ⟨h1, h2⟩)
  · exact Or.inl h1
end Go.Proofs.YtfocejhcdcnnhaaGreatDoor
