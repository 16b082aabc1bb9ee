/-
  The specification's deciCut and DeciTimes.
  The specification's DeciEach where it multiplies: each amount times a decimal, those of 0 left out.
-/
import Derived.Test.YtcoffndnfaemoaaGreatDoorHX
import Derived.Test.YtcoffndnfaemoaaGreatDoorGT
import Derived.Test.YtcoffndnfaemoaaGreatDoorHS
import Derived.Test.YtcoffndnfaemoaaGreatDoorGW
import Derived.Test.YtcoffndnfaemoaaGreatDoorGZ
namespace Go.Proofs.YtcoffndnfaemoaaGreatDoor
open Go Go.RowKit

theorem sCut (M : Nat) (t : Bool) (w : World) (hM : M < B64 ^ 4) : Calls Tryz.prog 92 #[dn M, .bool t] w (RetE (dn (cutN t M)) w) := by
  have hR : M % 10 ^ 18 < B64 := by unfold B64; omega
  have e2 := dw_small hR
  have hO : ∀ W, Calls Tryz.prog 91 #[dn M, dn (10 ^ 18)] W (RetPair (.agg #[.int .u64 ((D (M / 10 ^ 18) 0 % B64 : Nat) : Int), .int .u64 ((D (M / 10 ^ 18) 1 % B64 : Nat) : Int), .int .u64 ((D (M / 10 ^ 18) 2 % B64 : Nat) : Int), .int .u64 ((D (M / 10 ^ 18) 3 % B64 : Nat) : Int)]) (.agg #[.int .u64 ((M % 10 ^ 18 : Nat) : Int), .int .u64 0, .int .u64 0, .int .u64 0]) W) := fun W => by
    rw [← dn_of e2.1 e2.2.1 e2.2.2.1 e2.2.2.2]
    exact nOver _ _ W hM (by decide) (by unfold B64; decide)
  have hT := fun W => sTen 18 W (by omega)
  cases t
  · have hB : ∀ W, Calls Tryz.prog 96 #[.agg #[.int .u64 500000000000000000, .int .u64 0, .int .u64 0, .int .u64 0], .agg #[.int .u64 ((M % 10 ^ 18 : Nat) : Int), .int .u64 0, .int .u64 0, .int .u64 0]] W (RetE (.bool (decide (500000000000000000 < M % 10 ^ 18))) W) := fun W => by
      have e5 := dw_small (M := 500000000000000000) (by unfold B64; omega)
      have h := nBelow 500000000000000000 (M % 10 ^ 18) W (by unfold B64; decide) (by unfold B64; omega)
      rw [dn_of e5.1 e5.2.1 e5.2.2.1 e5.2.2.2, dn_of e2.1 e2.2.1 e2.2.2.1 e2.2.2.2] at h
      exact h
    have hPL : ∀ W, Calls Tryz.prog 95 #[.agg #[.int .u64 ((D (M / 10 ^ 18) 0 % B64 : Nat) : Int), .int .u64 ((D (M / 10 ^ 18) 1 % B64 : Nat) : Int), .int .u64 ((D (M / 10 ^ 18) 2 % B64 : Nat) : Int), .int .u64 ((D (M / 10 ^ 18) 3 % B64 : Nat) : Int)], .agg #[.int .u64 1, .int .u64 0, .int .u64 0, .int .u64 0]] W (RetE (.agg #[.int .u64 ((D (M / 10 ^ 18 + 1) 0 % B64 : Nat) : Int), .int .u64 ((D (M / 10 ^ 18 + 1) 1 % B64 : Nat) : Int), .int .u64 ((D (M / 10 ^ 18 + 1) 2 % B64 : Nat) : Int), .int .u64 ((D (M / 10 ^ 18 + 1) 3 % B64 : Nat) : Int)]) W) := fun W => by
      have e1 := dw_small (M := 1) (by unfold B64; omega)
      have h := nPlus (M / 10 ^ 18) 1 W
      rw [dn_of e1.1 e1.2.1 e1.2.2.1 e1.2.2.2] at h
      exact h
    have hD0 : D (M / 10 ^ 18) 0 = M / 10 ^ 18 := by unfold D; simp
    have hpar : bits .and .u64 ((D (M / 10 ^ 18) 0 % B64 : Nat) : Int) 1 = ((M / 10 ^ 18 % 2 : Nat) : Int) := by
      rw [and_one _ (Nat.mod_lt _ B64_pos), hD0]
      congr 1; unfold B64; omega
    have h18 : (10 : Nat) ^ 18 = 1000000000000000000 := rfl
    rcases Nat.lt_trichotomy (M % 10 ^ 18) 500000000000000000 with h | h | h
    · have hc : cutN false M = M / 10 ^ 18 := by unfold cutN; rw [if_neg (by rw [← h18]; omega), h18]
      rw [hc]
      exact sCutL M _ (M % 10 ^ 18) _ _ _ _ w (by simp; omega) (fun W => by have := hB W; rw [decide_eq_false (by omega)] at this; exact this) hT hO
    · rw [h] at hO hB
      by_cases hp : M / 10 ^ 18 % 2 = 1
      · have hc : cutN false M = M / 10 ^ 18 + 1 := by unfold cutN; rw [if_pos ⟨rfl, Or.inr (by rw [← h18]; exact ⟨h, hp⟩)⟩, h18]
        rw [hc]
        exact sCutO M _ _ _ _ _ _ _ _ _ w (by rw [hpar, hp]; rfl) (fun W => by have := hB W; rw [decide_eq_false (by omega)] at this; exact this) hPL hT hO
      · have hc : cutN false M = M / 10 ^ 18 := by unfold cutN; rw [if_neg (by rw [← h18]; omega), h18]
        rw [hc]
        have hp0 : M / 10 ^ 18 % 2 = 0 := by omega
        exact sCutE M _ _ _ _ _ w (by rw [hpar, hp0]; rfl) (fun W => by have := hB W; rw [decide_eq_false (by omega)] at this; exact this) hT hO
    · have hc : cutN false M = M / 10 ^ 18 + 1 := by unfold cutN; rw [if_pos ⟨rfl, Or.inl (by rw [← h18]; exact h)⟩, h18]
      rw [hc]
      exact sCutU M _ (M % 10 ^ 18) _ _ _ _ _ _ _ _ w (fun W => by have := hB W; rw [decide_eq_true h] at this; exact this) hPL hT hO
  · have hc : cutN true M = M / 10 ^ 18 := by unfold cutN; simp
    rw [hc]
    exact sCutT M _ (M % 10 ^ 18) _ _ _ _ w hT hO

set_option maxRecDepth 100000 in
set_option maxHeartbeats 1000000 in
theorem sTimesG (b c t : Bool) (M N X : Nat) (V : Value) (w : World) (hV : ∃ r P, V = deV r P) (hX : ∀ W, Calls Tryz.prog 56 #[dn M, dn N] W (RetE (dn X) W)) (hC : ∀ W, Calls Tryz.prog 92 #[dn X, .bool t] W (RetE (dn (cutN t X)) W)) (hP : ∀ W, Calls Tryz.prog 62 #[.bool (!(b == c)), dn (cutN t X)] W (RetE V W)) :
    Calls Tryz.prog 53 #[deV b M, deV c N, .bool t] w (RetE V w) := by
  obtain ⟨r, P, rfl⟩ := hV
  obtain ⟨W, hW⟩ : ∃ W, W = ((w.alloc (deBox b M)).alloc (deBox c N)).alloc zeroDe := ⟨_, rfl⟩
  have K0 := Lib.hid (show Blk W w.heap.size 39 [.bool b, dw M 0, dw M 1, dw M 2, dw M 3] by rw [hW]; exact ((blk_new0 w 39 [.bool b, dw M 0, dw M 1, dw M 2, dw M 3]).alloc _).alloc _)
  have K1 := Lib.hid (show Blk W (w.heap.size + 1) 39 [.bool c, dw N 0, dw N 1, dw N 2, dw N 3] by rw [hW]; exact (blk_new1 w (deBox b M) 39 [.bool c, dw N 0, dw N 1, dw N 2, dw N 3]).alloc _)
  have K2 := Lib.hid (show Blk W (w.heap.size + 2) 39 [.bool false, .int .u64 0, .int .u64 0, .int .u64 0, .int .u64 0] by rw [hW]; exact blk_new2 w _ _ 39 [.bool false, .int .u64 0, .int .u64 0, .int .u64 0, .int .u64 0])
  have EW := Lib.hid (show Ext w W by rw [hW]; exact ext3 _ _ _ _)
  have HWW := Lib.hid hW; clear hW
  have HP := Lib.hid hP; have HM := Lib.hid hX; have HC := Lib.hid hC; clear hP hX hC
  obtain ⟨CT, hCT⟩ : ∃ CT, CT = cutN t X := ⟨_, rfl⟩
  rw [← hCT] at HP HC
  clear hCT
  have KS0 := Lib.hid (show DP10 w.heap.size b (dw M 0) (dw M 1) (dw M 2) (dw M 3) c (dw N 0) (dw N 1) (dw N 2) (dw N 3) W from by
    obtain ⟨a0, a1, a2, a3, a4, _⟩ := five_cells K0.out; obtain ⟨b0, b1, b2, b3, b4, _⟩ := five_cells K1.out
    exact ⟨a0, a1, a2, a3, a4, b0, b1, b2, b3, b4⟩)
  have KS0d := Lib.hid (show DP10 w.heap.size b (dw M 0) (dw M 1) (dw M 2) (dw M 3) c (dw N 0) (dw N 1) (dw N 2) (dw N 3) W.drew from KS0.out)
  have la := K0.out.lt; have lb := K1.out.lt; have l2 := K2.out.lt
  go_enter Tryz.func53, Tryz.ntmps53
  go_upto_region 1 with fail
  rw [← HWW.out]
  go_region_held3 (fun w' => w'.cell? ⟨w.heap.size, 0, none⟩ = some (.bool b) ∧ w'.cell? ⟨w.heap.size, 1, none⟩ = some (dw M 0) ∧ w'.cell? ⟨w.heap.size, 2, none⟩ = some (dw M 1) ∧ w'.cell? ⟨w.heap.size, 3, none⟩ = some (dw M 2) ∧ w'.cell? ⟨w.heap.size, 4, none⟩ = some (dw M 3) ∧ w'.cell? ⟨w.heap.size + 1, 0, none⟩ = some (.bool c) ∧ w'.cell? ⟨w.heap.size + 1, 1, none⟩ = some (dw N 0) ∧ w'.cell? ⟨w.heap.size + 1, 2, none⟩ = some (dw N 1) ∧ w'.cell? ⟨w.heap.size + 1, 3, none⟩ = some (dw N 2) ∧ w'.cell? ⟨w.heap.size + 1, 4, none⟩ = some (dw N 3)) ((show DP10 w.heap.size b (dw M 0) (dw M 1) (dw M 2) (dw M 3) c (dw N 0) (dw N 1) (dw N 2) (dw N 3) _; (repeat (first | (with_reducible refine DP10.drew ?_) | (with_reducible refine DP10.set5 ?_ ?_ ?_; rotate_left; omega; omega))); with_reducible first | exact KS3.out | exact KS2.out | exact KS1.out | exact KS0d.out | exact KS0.out)) (first | (go_at_call 56; (with_reducible refine (HM.out _).mono ?_); rintro e w1 ⟨rfl, hE⟩; have HE1 := Lib.hid (show Ext W w1 from Ext.undrew hE); have KS1 := Lib.hid (KS0.out.ext HE1.out); clear hE) | (go_at_call 92; (with_reducible refine (HC.out _).mono ?_); rintro e w2 ⟨rfl, hE⟩; have HE2 := Lib.hid (HE1.out.trans' hE); have KS2 := Lib.hid (KS0.out.ext HE2.out); clear hE) | (go_at_call 62; (with_reducible refine (HP.out _).mono ?_); rintro e w3 ⟨rfl, hE⟩; have HE3 := Lib.hid (HE2.out.trans' hE); have KS3 := Lib.hid (KS0.out.ext HE3.out); have kz := Lib.hid (K2.out.ext HE3.out); obtain ⟨z0, z1, z2, z3, z4, lz⟩ := five_cells kz.out; obtain ⟨f0, f1, f2, f3, f4⟩ := five_frozen kz.out; clear hE))
  all_goals go_wp2
  all_goals exact bodyPost_ret (v := deV r P) (by simp [results, Tryz.results53, go_sem, z0, z1, z2, z3, z4]) rfl ⟨rfl, Only.ext (EW.out.trans' HE3.out) ((Only.refl _ _).five _ _ _ _ _) (by omega)⟩

/-- The product of two decimals as the specification cuts it. -/
def cutZ (t : Bool) (z : Int) : Int := if z < 0 then -(cutN t z.natAbs : Int) else (cutN t z.natAbs : Int)
theorem cutN_le (t : Bool) (N : Nat) : cutN t N ≤ N + 1 := by
  unfold cutN
  split <;> omega
theorem sTimes (y z : Int) (t : Bool) (w : World) (hy : y.natAbs < B64 ^ 2) (hp : y.natAbs * z.natAbs + 1 < B64 ^ 4) : Calls Tryz.prog 53 #[de y, de z, .bool t] w (RetE (de (cutZ t (y * z))) w) := by
  have h4 : y.natAbs < B64 ^ 4 := Nat.lt_of_lt_of_le hy b64_24
  have hm : (y * z).natAbs = y.natAbs * z.natAbs := Int.natAbs_mul y z
  have hcl := cutN_le t (y.natAbs * z.natAbs)
  refine sTimesG (decide (y < 0)) (decide (z < 0)) t y.natAbs z.natAbs (y.natAbs * z.natAbs) _ w ⟨_, _, rfl⟩ (fun W => nTimes _ _ W h4) (fun W => sCut _ t W (by omega)) (fun W => ?_)
  have hsg : (decide (y < 0) != decide (z < 0)) = true → y * z ≤ 0 := by
    intro h
    by_cases h1 : y < 0 <;> by_cases h2 : z < 0 <;> simp [h1, h2] at h
    · exact Int.mul_nonpos_of_nonpos_of_nonneg (by omega) (by omega)
    · exact Int.mul_nonpos_of_nonneg_of_nonpos (by omega) (by omega)
  have hsg2 : (decide (y < 0) != decide (z < 0)) = false → 0 ≤ y * z := by
    intro h
    by_cases h1 : y < 0 <;> by_cases h2 : z < 0 <;> simp [h1, h2] at h
    · exact Int.mul_nonneg_of_nonpos_of_nonpos (by omega) (by omega)
    · exact Int.mul_nonneg (by omega) (by omega)
  rw [show (!(decide (y < 0) == decide (z < 0))) = (decide (y < 0) != decide (z < 0)) from rfl]
  cases hb : (decide (y < 0) != decide (z < 0))
  · have hn := hsg2 hb
    have e : de (cutZ t (y * z)) = deV false (cutN t (y.natAbs * z.natAbs)) := by
      unfold cutZ; rw [if_neg (by omega), hm, de_pos (by omega)]; simp
    rw [e]; exact sMadeF _ W
  · have hn := hsg hb
    have e : de (cutZ t (y * z)) = deV (decide (cutN t (y.natAbs * z.natAbs) ≠ 0)) (cutN t (y.natAbs * z.natAbs)) := by
      unfold cutZ
      by_cases h0 : y * z < 0
      · rw [if_pos h0, hm]
        unfold de
        rw [Int.natAbs_neg, Int.natAbs_natCast]
        congr 1
        rw [decide_eq_decide]; omega
      · have hz0 : y * z = 0 := by omega
        have hn0 : y.natAbs * z.natAbs = 0 := by rw [← hm, hz0]; rfl
        rw [if_neg h0, hm, hn0]
        have hc0 : cutN t 0 = 0 := by unfold cutN; simp
        rw [hc0]; rfl
    rw [e]; exact sMadeT _ W (by omega)
end Go.Proofs.YtcoffndnfaemoaaGreatDoor

namespace Go.Proofs.YtcoffndnfaemoaaGreatDoor
open Go Go.RowKit

/-- Each amount times a decimal. -/
def dtimes (t : Bool) (u : Int) (l : List (ByteArray × Int)) : List (ByteArray × Int) := l.map fun x => (x.1, cutZ t (x.2 * u))
theorem dtimes_take {t : Bool} {u : Int} {l : List (ByteArray × Int)} {k : Nat} (hk : k < l.length) {s : ByteArray} {z : Int} (he : l[k] = (s, z)) : dtimes t u (l.take (k + 1)) = dtimes t u (l.take k) ++ [(s, cutZ t (z * u))] := by
  unfold dtimes
  rw [List.take_succ_eq_append_getElem hk, List.map_append, he]; rfl
theorem pow24 {a b : Nat} (ha : a < B64 ^ 2) (hb : b < B64 ^ 2) : a * b + 1 < B64 ^ 4 := by
  have h1 : a * b ≤ (B64 ^ 2 - 1) * (B64 ^ 2 - 1) := Nat.mul_le_mul (by omega) (by omega)
  have h2 : (B64 ^ 2 - 1) * (B64 ^ 2 - 1) + 1 < B64 ^ 4 := by unfold B64; decide
  omega
theorem cutZ_abs (t : Bool) {y z : Int} (hy : y.natAbs < B64 ^ 2) (hz : z.natAbs < B64 ^ 2) : (cutZ t (y * z)).natAbs < B64 ^ 4 := by
  have h := pow24 hy hz
  rw [← Int.natAbs_mul] at h
  have hc := cutN_le t (y * z).natAbs
  unfold cutZ
  split <;> omega

set_option maxRecDepth 100000 in
set_option maxHeartbeats 4000000 in
theorem sEach (A : Option Addr) (n c : Nat) (t : Bool) (u : Int) (l : List (ByteArray × Int)) (w : World) (hl : l.length = n) (hn : n ≤ 100000) (hA : DeAt w A l) (hz : ∀ x ∈ l, x.2.natAbs < B64 ^ 2) (hu : u.natAbs < B64 ^ 2) :
    Calls Tryz.prog 18 #[.slice A n c, de u, .agg #[.bool false, .bool t]] w (RetDe (vnz (dtimes t u l)) w) := by
  obtain ⟨i0, hi, hz0, hz1, hz2⟩ := info_parts infoDe
  obtain ⟨ub, u0, u1, u2, u3, _, hun⟩ := de_names ⟨#[]⟩ u
  have HUN := Lib.hid hun
  rw [hun]
  obtain ⟨V, hV⟩ : ∃ V, V = (w.alloc (.cells #[.bool ub, .int .u64 u0, .int .u64 u1, .int .u64 u2, .int .u64 u3] 39)).alloc (.cells #[.bool false, .bool t] 42) := ⟨_, rfl⟩
  have KU := Lib.hid (show Blk V w.heap.size 39 [.bool ub, .int .u64 u0, .int .u64 u1, .int .u64 u2, .int .u64 u3] by rw [hV]; exact (blk_new0 w 39 [.bool ub, .int .u64 u0, .int .u64 u1, .int .u64 u2, .int .u64 u3]).alloc _)
  have KH := Lib.hid (show Blk V (w.heap.size + 1) 42 [.bool false, .bool t] by rw [hV]; exact blk_new1 w _ 42 [.bool false, .bool t])
  have EV := Lib.hid (show Ext w V by rw [hV]; exact ext2 _ _ _)
  have HVV := Lib.hid hV
  have HL := Lib.hid hl; have HP := Lib.hid hA; have HZ := Lib.hid hz; have HU := Lib.hid hu
  clear hl hA hz hu hun hV
  go_enter Tryz.func18, Tryz.ntmps18
  go_wp2
  rw [← HVV.out]
  go_loopw [7, 12] (fun v i wr => ∃ (j : Nat) (cs : List (ByteArray × Int)), j ≤ n ∧ i = .int .i64 j ∧ cs.length = j ∧ cs = dtimes t u (l.take j) ∧ DeOwn wr V.heap.size v cs ∧ Ext V wr) (fun _ i _ => n - (intOf i).toNat)
  case atStart => exact ⟨0, [], Nat.zero_le _, rfl, rfl, rfl, DeOwn.nil _ _, Ext.refl _⟩
  case round =>
    obtain ⟨j, cs, hj, rfl, hcl, hcv, hown, hE⟩ := hrel
    have HC := Lib.hid hcl; have HV := Lib.hid hcv; have HO := Lib.hid hown; have HE := Lib.hid hE
    clear hcl hcv hown hE
    by_cases hlt : j < n
    · have hkl : j < l.length := by rw [HL.out]; exact hlt
      obtain ⟨s, hs⟩ : ∃ s, s = l[j].1 := ⟨_, rfl⟩
      obtain ⟨z, hzz⟩ : ∃ z, z = l[j].2 := ⟨_, rfl⟩
      have HZB := Lib.hid (show z.natAbs < B64 ^ 2 by rw [hzz]; exact HZ.out _ (List.getElem_mem hkl))
      obtain ⟨g, o, hA, hc⟩ := HP.out (by intro e; rw [e] at hkl; simp at hkl)
      subst hA
      obtain ⟨b, x0, x1, x2, x3, hd6, hdz, cs0, cs1, cs2, cs3, cs4, cs5⟩ := de_cells (de_get (w := wr) (s := s) (z := z) hkl (fun j hj i u hu => (EV.out.trans' HE.out).cell' (hc j hj i u hu)) (by rw [hs, hzz]))
      have HS := Lib.hid (show l[j] = (s, z) by rw [hs, hzz])
      obtain ⟨T, hT⟩ : ∃ T, T = cutZ t (z * u) := ⟨_, rfl⟩
      have HTT := Lib.hid hT
      obtain ⟨tb, t0, t1, t2, t3, ht6, htz⟩ := de_names s T
      have HT6 := Lib.hid ht6
      have HTI := Lib.hid (fun W => sTimes z u t W HZB.out (pow24 HZB.out HU.out))
      rw [← hT, htz, hdz, HUN.out] at HTI
      clear hs hzz hc hd6 hdz hT ht6 htz
      obtain ⟨W1, hW1⟩ : ∃ W1, W1 = wr.alloc (.cells #[.string s, .bool b, .int .u64 x0, .int .u64 x1, .int .u64 x2, .int .u64 x3] 53) := ⟨_, rfl⟩
      have K1 := Lib.hid (show Blk W1 wr.heap.size 53 [.string s, .bool b, .int .u64 x0, .int .u64 x1, .int .u64 x2, .int .u64 x3] by rw [hW1]; exact blk_new0 wr 53 [.string s, .bool b, .int .u64 x0, .int .u64 x1, .int .u64 x2, .int .u64 x3])
      have E1 := Lib.hid (show Ext wr W1 by rw [hW1]; exact ext1 _ _)
      have HW1 := Lib.hid hW1; clear hW1
      go_upto_region 5 with fail
      rw [← HW1.out]
      obtain ⟨a0, a1, a2, a3, a4, a5, la⟩ := six_cells K1.out
      obtain ⟨r0, r1, r2, r3, r4, lr⟩ := five_cells (KU.out.ext (HE.out.trans' E1.out))
      obtain ⟨h0, h1, lh⟩ := dcells_2 (KH.out.ext (HE.out.trans' E1.out))
      clear cs0 cs1 cs2 cs3 cs4 cs5
      obtain ⟨q, hq⟩ : ∃ q, q = wr.heap.size := ⟨_, rfl⟩
      rw [← hq] at a0 a1 a2 a3 a4 a5 la K1 ⊢
      have HQ := Lib.hid hq; clear hq
      go_wp2_with (fail)
      go_at_call 53
      refine (HTI.out _).mono ?_
      rintro e w5 ⟨rfl, hE⟩
      have E5 := Lib.hid (E1.out.trans' hE); have K5 := Lib.hid (K1.out.ext hE); clear hE a0 a1 a2 a3 a4 a5 la r0 r1 r2 r3 r4 lr h0 h1 lh
      obtain ⟨a0, a1, a2, a3, a4, a5, la⟩ := six_cells K5.out
      have f1 := K5.out.frozen 1; have f2 := K5.out.frozen 2; have f3 := K5.out.frozen 3; have f4 := K5.out.frozen 4; have f5 := K5.out.frozen 5
      go_upto_region 8 with fail
      obtain ⟨W6, hW6⟩ : ∃ W6, W6 = ((((w5.setCell ⟨q, 1, none⟩ (.bool tb)).setCell ⟨q, 2, none⟩ (.int .u64 t0)).setCell ⟨q, 3, none⟩ (.int .u64 t1)).setCell ⟨q, 4, none⟩ (.int .u64 t2)).setCell ⟨q, 5, none⟩ (.int .u64 t3) := ⟨_, rfl⟩
      have K6 := Lib.hid (show Blk W6 q 53 [.string s, .bool tb, .int .u64 t0, .int .u64 t1, .int .u64 t2, .int .u64 t3] by rw [hW6]; exact ((((K5.out.set_ 1 _).set_ 2 _).set_ 3 _).set_ 4 _).set_ 5 _)
      have E6 := Lib.hid (show Ext wr W6 by rw [hW6]; exact Only.ext E5.out (((((Only.refl _ _).set_ 1 _).set_ 2 _).set_ 3 _).set_ 4 _ |>.set_ 5 _) (by rw [HQ.out]; exact Nat.le_refl _))
      have HW6 := Lib.hid hW6; clear hW6
      rw [← HW6.out]
      clear a0 a1 a2 a3 a4 a5 la f1 f2 f3 f4 f5
      obtain ⟨a0, a1, a2, a3, a4, a5, la⟩ := six_cells K6.out
      go_wp2_with (first | (at_builtin; refine wpList_append_own_at _ rfl (.tmp 32) (.tmp 34) 32 rfl V.heap.size 53 i0 _ 6 56 Tryz.underlying32 hi hz0 hz1 hz2 rfl (by decide) u7 cs.length (flat6 cs) rfl (owns_ext (HO.out.ext E6.out) (ext1 _ _)) ⟨W6.heap.size, 0, none⟩ 1 1 [.string s, .bool tb, .int .u64 t0, .int .u64 t1, .int .u64 t2, .int .u64 t3] rfl rfl (cells_new _ _ _) (fun u hu => by rw [← HT6.out] at hu; exact dcell6_one _ u hu) (by have := HC.out; unfold maxLen; omega) (by have := HC.out; omega) (by have := HE.out.size; have := E6.out.size; simp; omega) ?_; intro v' w6 hown hgrow _ _; have R := Lib.hid (de_push (x := (s, T)) ((HO.out.ext E6.out).ext (ext1 _ _)) ((HE.out.trans' E6.out).trans' (ext1 _ _)) (by rw [HT6.out]; exact hown) hgrow); clear hown hgrow) | fail)
      go_roundw
      case rel => exact ⟨j + 1, cs ++ [(s, T)], by omega, by go_num, by simp [HC.out], by rw [HV.out, dtimes_take hkl HS.out, ← HTT.out], R.out.1, R.out.2⟩
      case measure => simp [intOf]; omega
    · obtain rfl : j = n := by omega
      have hlen : cs.length = j := HC.out
      obtain ⟨A3, c3, hv3, hc3, hp3⟩ := de_slice (n := j) HO.out hlen
      subst hv3
      have HV2 := Lib.hid (show cs = dtimes t u l by rw [HV.out, List.take_of_length_le (by rw [HL.out]; exact Nat.le_refl _)])
      have HSM := Lib.hid (sSome A3 j c3 cs wr hlen (by omega) hp3 (fun x hx => by
        rw [HV2.out] at hx
        obtain ⟨y, hy, rfl⟩ := List.mem_map.1 hx
        exact cutZ_abs t (HZ.out y hy) HU.out))
      rw [HV2.out] at HSM
      go_wp2_with (first | (go_at_call 54; refine HSM.out.mono ?_; rintro e w4 ⟨v4, rfl, ho4, hE4⟩; have HO4 := Lib.hid ho4; have HE4 := Lib.hid hE4; clear ho4 hE4) | fail)
      go_ret
      exact ⟨_, rfl, row_low HO4.out (EV.out.trans' HE.out).size, (EV.out.trans' HE.out).trans' HE4.out⟩
end Go.Proofs.YtcoffndnfaemoaaGreatDoor
