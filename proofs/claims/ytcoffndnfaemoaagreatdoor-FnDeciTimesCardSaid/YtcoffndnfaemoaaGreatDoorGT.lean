/-
  The specification's decimals (a sign and 256 bits): deciTen, deciMade, deciInt, DeciPlus, DeciMinus, DeciSign.
  The specification's DeciSign, deciInt, DeciPlus, DeciMinus.
  The specification's DeciMinus and DeciOf.
  Lists of the specification's decimal coins in memory (six cells each); the laws' deciOf and deciOwn.
  The contract of the specification's DeciDenom.
-/
import Derived.Test.YtcoffndnfaemoaaGreatDoorGS
import Derived.Deep.RegionHeld3
import Derived.Deep.DeepCutAuto
import Derived.Deep.RegionLaw
import Derived.Deep.Cut
import Derived.Test.YtcoffndnfaemoaaGreatDoorGQ
import Derived.Deep.AppendLies
import Derived.Test.YtcoffndnfaemoaaGreatDoorGE
namespace Go.Proofs.YtcoffndnfaemoaaGreatDoor
open Go Go.RowKit

/-- A decimal with this sign and this number; the decimal of so many parts. -/
abbrev deV (b : Bool) (M : Nat) : Value := .agg #[.bool b, dw M 0, dw M 1, dw M 2, dw M 3]
abbrev deBox (b : Bool) (M : Nat) : Obj := .cells #[.bool b, dw M 0, dw M 1, dw M 2, dw M 3] 39
abbrev de (z : Int) : Value := deV (decide (z < 0)) z.natAbs
abbrev zeroDe : Obj := .cells #[.bool false, .int .u64 0, .int .u64 0, .int .u64 0, .int .u64 0] 39
abbrev zeroDn : Obj := .cells #[.int .u64 0, .int .u64 0, .int .u64 0, .int .u64 0] 37
theorem D_small {M : Nat} (h : M < B64) (j : Nat) : D M (j + 1) = 0 := by
  induction j with
  | zero => exact Nat.div_eq_of_lt h
  | succ j ih => show D M (j + 1) / B64 = 0; rw [ih]; exact Nat.zero_div _
theorem dw_small {M : Nat} (h : M < B64) : dw M 0 = .int .u64 (M : Int) ∧ dw M 1 = .int .u64 0 ∧ dw M 2 = .int .u64 0 ∧ dw M 3 = .int .u64 0 := by
  unfold dw
  rw [D_small h 0, D_small h 1, D_small h 2, show D M 0 = M from rfl, Nat.mod_eq_of_lt h]
  exact ⟨rfl, rfl, rfl, rfl⟩
theorem words_zero {M : Nat} (hM : M < B64 ^ 4) (h0 : D M 0 % B64 = 0) (h1 : D M 1 % B64 = 0) (h2 : D M 2 % B64 = 0) (h3 : D M 3 % B64 = 0) : M = 0 := by
  have e4 : D M 4 = D 0 4 := by rw [D_four hM, D_zero]
  have z : ∀ j, D 0 j % B64 = 0 := fun j => by rw [D_zero]; rfl
  have e3 := D_same (j := 3) e4 (by rw [h3, z])
  have e2 := D_same (j := 2) e3 (by rw [h2, z])
  have e1 := D_same (j := 1) e2 (by rw [h1, z])
  exact D_same (j := 0) e1 (by rw [h0, z])
theorem blk_new3' (w : World) (o o' o'' : Obj) (t : TypeId) (cs : List Value) : Blk ((((w.alloc o).alloc o').alloc o'').alloc (.cells cs.toArray t)) (w.heap.size + 3) t cs := by
  have h := blk_new0 (((w.alloc o).alloc o').alloc o'') t cs
  rwa [show (((w.alloc o).alloc o').alloc o'').heap.size = w.heap.size + 3 by simp] at h

theorem four_cells {W : World} {g : Nat} {T : TypeId} {a b c d : Value} (h : Blk W g T [a, b, c, d]) : W.cell? ⟨g, 0, none⟩ = some a ∧ W.cell? ⟨g, 1, none⟩ = some b ∧ W.cell? ⟨g, 2, none⟩ = some c ∧ W.cell? ⟨g, 3, none⟩ = some d ∧ g < W.heap.size :=
  ⟨(h.cell 0).trans rfl, (h.cell 1).trans rfl, (h.cell 2).trans rfl, (h.cell 3).trans rfl, h.lt⟩
theorem five_cells {W : World} {g : Nat} {T : TypeId} {a b c d e : Value} (h : Blk W g T [a, b, c, d, e]) : W.cell? ⟨g, 0, none⟩ = some a ∧ W.cell? ⟨g, 1, none⟩ = some b ∧ W.cell? ⟨g, 2, none⟩ = some c ∧ W.cell? ⟨g, 3, none⟩ = some d ∧ W.cell? ⟨g, 4, none⟩ = some e ∧ g < W.heap.size :=
  ⟨(h.cell 0).trans rfl, (h.cell 1).trans rfl, (h.cell 2).trans rfl, (h.cell 3).trans rfl, (h.cell 4).trans rfl, h.lt⟩
theorem five_frozen {W : World} {g : Nat} {T : TypeId} {cs : List Value} (h : Blk W g T cs) : W.frozen? ⟨g, 0, none⟩ = false ∧ W.frozen? ⟨g, 1, none⟩ = false ∧ W.frozen? ⟨g, 2, none⟩ = false ∧ W.frozen? ⟨g, 3, none⟩ = false ∧ W.frozen? ⟨g, 4, none⟩ = false :=
  ⟨h.frozen 0, h.frozen 1, h.frozen 2, h.frozen 3, h.frozen 4⟩

theorem ten_lt {n : Nat} (h : n ≤ 70) : 10 ^ n < B64 ^ 4 := Nat.lt_of_le_of_lt (Nat.pow_le_pow_right (by omega) h) (by unfold B64; decide)
theorem nTimesTen (M : Nat) (w : World) (hM : M < B64 ^ 4) : Calls Tryz.prog 56 #[dn M, .agg #[.int .u64 10, .int .u64 0, .int .u64 0, .int .u64 0]] w (RetE (dn (M * 10)) w) := by
  have h := nTimes M 10 w hM
  obtain ⟨e0, e1, e2, e3⟩ := dw_small (M := 10) (by unfold B64; omega)
  unfold dn at h
  rw [e0, e1, e2, e3] at h
  exact h
set_option maxRecDepth 100000 in
set_option maxHeartbeats 1000000 in
theorem sTen (n : Nat) (w : World) (hn : n ≤ 70) : Calls Tryz.prog 57 #[.int .i64 n] w (RetE (dn (10 ^ n)) w) := by
  obtain ⟨W, hW⟩ : ∃ W, W = (w.alloc zeroDn).alloc (.cells #[.int .u64 1, .int .u64 0, .int .u64 0, .int .u64 0] 37) := ⟨_, rfl⟩
  have K0 := Lib.hid (show Blk W w.heap.size 37 [.int .u64 0, .int .u64 0, .int .u64 0, .int .u64 0] by rw [hW]; exact (blk_new0 w 37 [.int .u64 0, .int .u64 0, .int .u64 0, .int .u64 0]).alloc _)
  have K1 := Lib.hid (show Blk W (w.heap.size + 1) 37 [dw (10 ^ 0) 0, dw (10 ^ 0) 1, dw (10 ^ 0) 2, dw (10 ^ 0) 3] by
    obtain ⟨q0, q1, q2, q3⟩ := dw_small (M := 10 ^ 0) (by unfold B64; omega)
    rw [hW, q0, q1, q2, q3]; exact blk_new1 w zeroDn 37 [.int .u64 1, .int .u64 0, .int .u64 0, .int .u64 0])
  have HE := Lib.hid (show Ext w W by rw [hW]; exact ext2 _ _ _)
  have HWW := Lib.hid hW; clear hW
  go_enter Tryz.func57, Tryz.ntmps57
  go_wp2_with (fail)
  rw [← HWW.out]
  go_loopw [6] (fun i wr => ∃ k : Nat, k ≤ n ∧ i = .int .i64 k ∧ Blk wr (w.heap.size + 1) 37 [dw (10 ^ k) 0, dw (10 ^ k) 1, dw (10 ^ k) 2, dw (10 ^ k) 3] ∧ Only (w.heap.size + 1) W wr) (fun i _ => n - (intOf i).toNat)
  case atStart => exact ⟨0, Nat.zero_le _, rfl, K1.out, Only.refl _ _⟩
  case round =>
    obtain ⟨k, hk, rfl, hb, ho⟩ := hrel
    have HB := Lib.hid hb; have HO := Lib.hid ho
    obtain ⟨c0, c1, c2, c3, lc⟩ := four_cells hb
    have K0' := Lib.hid (ho.block' K0.out (by omega))
    clear hb ho
    by_cases hlt : k < n
    · have HT := Lib.hid (fun W => nTimesTen (10 ^ k) W (ten_lt (by omega)))
      rw [show 10 ^ k * 10 = 10 ^ (k + 1) from (Nat.pow_succ ..).symm] at HT
      obtain ⟨M', hM'⟩ : ∃ M', M' = 10 ^ (k + 1) := ⟨_, rfl⟩
      rw [← hM'] at HT
      have HM' := Lib.hid hM'; clear hM'
      generalize 10 ^ k = M at *
      go_wp2_with (first | (go_at_call 56; refine (HT.out _).mono ?_; rintro e w1 ⟨rfl, hE⟩; have kb := HB.out.ext hE; have HE1 := Lib.hid hE; obtain ⟨d0, d1, d2, d3, ld⟩ := four_cells kb; obtain ⟨f0, f1, f2, f3, f4⟩ := five_frozen kb; have KB := Lib.hid kb; clear hE kb))
      go_roundw
      case rel => exact ⟨k + 1, by omega, by go_num, by rw [← HM'.out]; exact (((KB.out.set_ 0 _).set_ 1 _).set_ 2 _).set_ 3 _, (HO.out.trans' (Only.of_ext HE1.out)).trans' (((((Only.refl _ _).set_ 0 _).set_ 1 _).set_ 2 _).set_ 3 _)⟩
      case measure => simp [intOf]; omega
    · obtain rfl : k = n := by omega
      obtain ⟨z0, z1, z2, z3, lz⟩ := four_cells K0'.out
      obtain ⟨f0, f1, f2, f3, f4⟩ := five_frozen K0'.out
      generalize 10 ^ k = M at *
      go_wp2
      exact bodyPost_ret (v := dn M) (by simp [results, Tryz.results57, go_sem, z0, z1, z2, z3]) rfl ⟨rfl, Only.ext (Only.ext HE.out HO.out (by omega)) (((((Only.refl _ _).set_ 0 _).set_ 1 _).set_ 2 _).set_ 3 _) (by omega)⟩

theorem Only.five {g : Nat} {w w' : World} (h : Only g w w') (a b c d e : Value) : Only g w (((((w'.setCell ⟨g, 0, none⟩ a).setCell ⟨g, 1, none⟩ b).setCell ⟨g, 2, none⟩ c).setCell ⟨g, 3, none⟩ d).setCell ⟨g, 4, none⟩ e) := ((((h.set_ 0 _).set_ 1 _).set_ 2 _).set_ 3 _).set_ 4 _
/-- A number that is not 0 has a word that is not. -/
theorem words_some {M : Nat} (hM : M < B64 ^ 4) (h : M ≠ 0) : ¬ D M 0 % B64 = 0 ∨ (D M 0 % B64 = 0 ∧ ¬ D M 1 % B64 = 0) ∨ (D M 0 % B64 = 0 ∧ D M 1 % B64 = 0 ∧ ¬ D M 2 % B64 = 0) ∨ (D M 0 % B64 = 0 ∧ D M 1 % B64 = 0 ∧ D M 2 % B64 = 0 ∧ ¬ D M 3 % B64 = 0) := by
  by_cases h0 : D M 0 % B64 = 0
  · by_cases h1 : D M 1 % B64 = 0
    · by_cases h2 : D M 2 % B64 = 0
      · by_cases h3 : D M 3 % B64 = 0
        · exact absurd (words_zero hM h0 h1 h2 h3) h
        · exact Or.inr (Or.inr (Or.inr ⟨h0, h1, h2, h3⟩))
      · exact Or.inr (Or.inr (Or.inl ⟨h0, h1, h2⟩))
    · exact Or.inr (Or.inl ⟨h0, h1⟩)
  · exact Or.inl h0
theorem words_all0 : D 0 0 % B64 = 0 ∧ D 0 1 % B64 = 0 ∧ D 0 2 % B64 = 0 ∧ D 0 3 % B64 = 0 := by
  refine ⟨?_, ?_, ?_, ?_⟩ <;> (rw [D_zero]; rfl)

set_option maxRecDepth 100000 in
theorem dnEqual (a0 a1 a2 a3 b0 b1 b2 b3 : Int) (w : World) : (Op.equalIn 10000 37 (.agg #[.int .u64 a0, .int .u64 a1, .int .u64 a2, .int .u64 a3]) (.agg #[.int .u64 b0, .int .u64 b1, .int .u64 b2, .int .u64 b3])).run Tryz.prog w = .ok (a0 == b0 && (a1 == b1 && (a2 == b2 && a3 == b3))) w := by
  have u3 := Tryz.underlying35
  have ag3 := Tryz.isAgg35
  have z3 := Tryz.sizeOf35
  rw [show (10000 : Nat) = 9999 + 1 from rfl, Op.equalIn]
  simp only [Sem.run_bind, run_underlying Tryz.underlying37, Result.andThen_ok]
  simp only [Std.Legacy.Range.forIn_eq_forIn_range', Std.Legacy.Range.size, Nat.sub_zero, Nat.add_sub_cancel, Nat.div_one, List.range'_succ, List.range'_zero, List.forIn_cons, List.forIn_nil]
  go_simp
  by_cases h0 : a0 = b0 <;> by_cases h1 : a1 = b1 <;> by_cases h2 : a2 = b2 <;> by_cases h3 : a3 = b3 <;> simp [h0, h1, h2, h3]
set_option maxRecDepth 100000 in
set_option maxHeartbeats 1000000 in
theorem sMadeF (M : Nat) (w : World) : Calls Tryz.prog 62 #[.bool false, dn M] w (RetE (deV false M) w) := by
  obtain ⟨W, hW⟩ : ∃ W, W = (w.alloc (dnBox M)).alloc zeroDe := ⟨_, rfl⟩
  have K0 := Lib.hid (show Blk W w.heap.size 37 [dw M 0, dw M 1, dw M 2, dw M 3] by rw [hW]; exact (blk_new0 w 37 [dw M 0, dw M 1, dw M 2, dw M 3]).alloc _)
  have K1 := Lib.hid (show Blk W (w.heap.size + 1) 39 [.bool false, .int .u64 0, .int .u64 0, .int .u64 0, .int .u64 0] by rw [hW]; exact blk_new1 w (dnBox M) 39 [.bool false, .int .u64 0, .int .u64 0, .int .u64 0, .int .u64 0])
  have HE := Lib.hid (show Ext w W by rw [hW]; exact ext2 _ _ _)
  have HWW := Lib.hid hW; clear hW
  obtain ⟨c0, c1, c2, c3, lc⟩ := four_cells K0.out
  obtain ⟨z0, z1, z2, z3, z4, lz⟩ := five_cells K1.out
  obtain ⟨f0, f1, f2, f3, f4⟩ := five_frozen K1.out
  go_enter Tryz.func62, Tryz.ntmps62
  go_upto_region 1 with fail
  rw [← HWW.out]
  go_region
  all_goals go_wp2
  all_goals exact bodyPost_ret (v := deV false M) (by simp [results, Tryz.results62, go_sem, z0, z1, z2, z3, z4]) rfl ⟨rfl, Only.ext HE.out (Only.drewD ((Only.refl _ _).five _ _ _ _ _)) (by omega)⟩
set_option maxRecDepth 100000 in
set_option maxHeartbeats 2000000 in
theorem sMadeT (M : Nat) (w : World) (hM : M < B64 ^ 4) : Calls Tryz.prog 62 #[.bool true, dn M] w (RetE (deV (decide (M ≠ 0)) M) w) := by
  obtain ⟨W, hW⟩ : ∃ W, W = (w.alloc (dnBox M)).alloc zeroDe := ⟨_, rfl⟩
  have K0 := Lib.hid (show Blk W w.heap.size 37 [dw M 0, dw M 1, dw M 2, dw M 3] by rw [hW]; exact (blk_new0 w 37 [dw M 0, dw M 1, dw M 2, dw M 3]).alloc _)
  have K1 := Lib.hid (show Blk W (w.heap.size + 1) 39 [.bool false, .int .u64 0, .int .u64 0, .int .u64 0, .int .u64 0] by rw [hW]; exact blk_new1 w (dnBox M) 39 [.bool false, .int .u64 0, .int .u64 0, .int .u64 0, .int .u64 0])
  have HE := Lib.hid (show Ext w W by rw [hW]; exact ext2 _ _ _)
  have HWW := Lib.hid hW; clear hW
  obtain ⟨z0, z1, z2, z3, z4, lz⟩ := five_cells K1.out
  obtain ⟨f0, f1, f2, f3, f4⟩ := five_frozen K1.out
  by_cases h : M = 0
  · subst h
    obtain ⟨a0, a1, a2, a3⟩ := words_all0
    have c0 : W.cell? ⟨w.heap.size, 0, none⟩ = some (.int .u64 0) := (K0.out.cell 0).trans (by show some (dw 0 0) = _; rw [dw_zero]); have c1 : W.cell? ⟨w.heap.size, 1, none⟩ = some (.int .u64 0) := (K0.out.cell 1).trans (by show some (dw 0 1) = _; rw [dw_zero])
    have c2 : W.cell? ⟨w.heap.size, 2, none⟩ = some (.int .u64 0) := (K0.out.cell 2).trans (by show some (dw 0 2) = _; rw [dw_zero]); have c3 : W.cell? ⟨w.heap.size, 3, none⟩ = some (.int .u64 0) := (K0.out.cell 3).trans (by show some (dw 0 3) = _; rw [dw_zero])
    have F := Lib.hid (show deV (decide ((0 : Nat) ≠ 0)) 0 = .agg #[.bool false, .int .u64 0, .int .u64 0, .int .u64 0, .int .u64 0] by unfold deV; rw [dw_zero, dw_zero, dw_zero, dw_zero]; rfl)
    rw [F.out]
    clear a0 a1 a2 a3
    have F2 := Lib.hid (show dn 0 = .agg #[.int .u64 0, .int .u64 0, .int .u64 0, .int .u64 0] by unfold dn; rw [dw_zero, dw_zero, dw_zero, dw_zero])
    have F3 := Lib.hid (show dnBox 0 = zeroDn by unfold dnBox; rw [dw_zero, dw_zero, dw_zero, dw_zero])
    rw [F3.out] at HWW
    rw [F2.out]
    have heq := dnEqual 0 0 0 0 0 0 0 0
    go_enter Tryz.func62, Tryz.ntmps62
    go_upto_region 1 with fail
    rw [← HWW.out]
    go_region
    all_goals go_wp2
    all_goals exact bodyPost_ret (v := .agg #[.bool false, .int .u64 0, .int .u64 0, .int .u64 0, .int .u64 0]) (by simp [results, Tryz.results62, go_sem, z0, z1, z2, z3, z4]) rfl ⟨rfl, Only.ext HE.out (Only.drewD ((Only.refl _ _).five _ _ _ _ _)) (by omega)⟩
  · have F := Lib.hid (show deV (decide (M ≠ 0)) M = deV true M by rw [decide_eq_true h])
    rw [F.out]
    have hs := words_some hM h
    obtain ⟨x0, h0⟩ : ∃ x, x = D M 0 % B64 := ⟨_, rfl⟩
    obtain ⟨x1, h1⟩ : ∃ x, x = D M 1 % B64 := ⟨_, rfl⟩
    obtain ⟨x2, h2⟩ : ∃ x, x = D M 2 % B64 := ⟨_, rfl⟩
    obtain ⟨x3, h3⟩ : ∃ x, x = D M 3 % B64 := ⟨_, rfl⟩
    unfold dw at K0
    unfold dn deV dw
    unfold dnBox dw at HWW
    rw [← h0, ← h1, ← h2, ← h3] at hs K0 HWW ⊢
    obtain ⟨c0, c1, c2, c3, lc⟩ := four_cells K0.out
    clear hM h h0 h1 h2 h3
    obtain ⟨r, hr⟩ : ∃ r, r = ((x0 : Int) == 0 && ((x1 : Int) == 0 && ((x2 : Int) == 0 && (x3 : Int) == 0))) := ⟨_, rfl⟩
    obtain rfl : r = false := by
      rw [hr]
      rcases hs with hs | ⟨a0, hs⟩ | ⟨a0, a1, hs⟩ | ⟨a0, a1, a2, hs⟩ <;> simp <;> omega
    clear hs
    have heq := dnEqual x0 x1 x2 x3 0 0 0 0
    rw [← hr] at heq
    clear hr
    · skip
      go_enter Tryz.func62, Tryz.ntmps62
      go_upto_region 1 with fail
      rw [← HWW.out]
      go_region
      all_goals go_wp2
      all_goals exact bodyPost_ret (v := .agg #[.bool true, .int .u64 x0, .int .u64 x1, .int .u64 x2, .int .u64 x3]) (by simp [results, Tryz.results62, go_sem, z0, z1, z2, z3, z4]) rfl ⟨rfl, Only.ext HE.out (Only.drewD ((Only.refl _ _).five _ _ _ _ _)) (by omega)⟩
end Go.Proofs.YtcoffndnfaemoaaGreatDoor

namespace Go.Proofs.YtcoffndnfaemoaaGreatDoor
open Go Go.RowKit

theorem de_neg {z : Int} (h : z < 0) : de z = deV true z.natAbs := by unfold de; rw [decide_eq_true h]
theorem de_pos {z : Int} (h : ¬ z < 0) : de z = deV false z.natAbs := by unfold de; rw [decide_eq_false h]
theorem deBox_neg {z : Int} (h : z < 0) : deBox (decide (z < 0)) z.natAbs = deBox true z.natAbs := by rw [decide_eq_true h]
/-- The words of a number, as numbers. -/
theorem words_of (M : Nat) : ∃ x0 x1 x2 x3 : Nat, dw M 0 = .int .u64 x0 ∧ dw M 1 = .int .u64 x1 ∧ dw M 2 = .int .u64 x2 ∧ dw M 3 = .int .u64 x3 ∧ (M < B64 ^ 4 → M ≠ 0 → ((x0 : Int) == 0 && ((x1 : Int) == 0 && ((x2 : Int) == 0 && (x3 : Int) == 0))) = false) := by
  refine ⟨_, _, _, _, rfl, rfl, rfl, rfl, fun hM h => ?_⟩
  rcases words_some hM h with hs | ⟨a0, hs⟩ | ⟨a0, a1, hs⟩ | ⟨a0, a1, a2, hs⟩ <;> simp <;> omega

set_option maxRecDepth 100000 in
theorem sSign (z : Int) (w : World) (hz : z.natAbs < B64 ^ 4) : Calls Tryz.prog 22 #[de z] w (RetE (.int .i64 (sgn z)) w) := by
  obtain ⟨x0, x1, x2, x3, e0, e1, e2, e3, hne⟩ := words_of z.natAbs
  unfold de deV
  by_cases h : z < 0
  · rw [e0, e1, e2, e3, decide_eq_true h, show sgn z = -1 by unfold sgn; rw [if_pos h]]
    clear hne e0 e1 e2 e3 hz
    go_enter Tryz.func22, Tryz.ntmps22
    go_wp2
    go_ret
    exact ⟨rfl, ext1 _ _⟩
  · rw [decide_eq_false h]
    by_cases h0 : z = 0
    · subst h0
      rw [show sgn 0 = 0 from rfl]
      have E : ∀ j, dw (Int.natAbs 0) j = .int .u64 0 := fun j => dw_zero j
      rw [E, E, E, E]
      have heq := dnEqual 0 0 0 0 0 0 0 0
      clear hne e0 e1 e2 e3 hz h E
      go_enter Tryz.func22, Tryz.ntmps22
      go_wp2
      go_ret
      exact ⟨rfl, ext1 _ _⟩
    · have hr := hne hz (by omega)
      rw [e0, e1, e2, e3, show sgn z = 1 by unfold sgn; rw [if_neg h, if_pos (by omega)]]
      have heq := dnEqual x0 x1 x2 x3 0 0 0 0
      rw [hr] at heq
      clear hne e0 e1 e2 e3 hz h hr
      go_enter Tryz.func22, Tryz.ntmps22
      go_wp2
      go_ret
      exact ⟨rfl, ext1 _ _⟩

theorem de_small {z : Int} {m : Nat} {b : Bool} (hm : z.natAbs = m) (h : m < B64) (hb : decide (z < 0) = b) : de z = .agg #[.bool b, .int .u64 (m : Int), .int .u64 0, .int .u64 0, .int .u64 0] := by
  unfold de deV
  obtain ⟨e0, e1, e2, e3⟩ := dw_small h
  rw [hm, hb, e0, e1, e2, e3]
set_option maxRecDepth 100000 in
theorem sInt (x : Int) (w : World) (h0 : -9223372036854775808 ≤ x) (h1 : x ≤ 9223372036854775807) : Calls Tryz.prog 55 #[.int .i64 x] w (RetE (de x) w) := by
  obtain ⟨W, hW⟩ : ∃ W, W = w.alloc zeroDe := ⟨_, rfl⟩
  have K0 := Lib.hid (show Blk W w.heap.size 39 [.bool false, .int .u64 0, .int .u64 0, .int .u64 0, .int .u64 0] by rw [hW]; exact blk_new0 w 39 [.bool false, .int .u64 0, .int .u64 0, .int .u64 0, .int .u64 0])
  have EW := Lib.hid (show Ext w W by rw [hW]; exact ext1 _ _)
  have HWW := Lib.hid hW; clear hW
  obtain ⟨z0, z1, z2, z3, z4, lz⟩ := five_cells K0.out
  obtain ⟨f0, f1, f2, f3, f4⟩ := five_frozen K0.out
  by_cases h : x < 0
  · obtain ⟨m, hm⟩ : ∃ m : Nat, x = -(m : Int) := ⟨x.natAbs, by omega⟩
    subst hm
    rw [de_small (z := -(m : Int)) (m := m) (b := true) (by omega) (by unfold B64; omega) (decide_eq_true h)]
    have hw1 : IntKind.u64.wrap (-(m : Int)) = 18446744073709551616 - (m : Int) := by rw [IntKind.wrap_u64]; omega
    have hw2 : IntKind.u64.wrap (-(18446744073709551616 - (m : Int))) = (m : Int) := by rw [IntKind.wrap_u64]; omega
    go_enter Tryz.func55, Tryz.ntmps55
    go_upto_region 1 with fail
    rw [← HWW.out]
    go_wp2
    exact bodyPost_ret (v := .agg #[.bool true, .int .u64 (m : Int), .int .u64 0, .int .u64 0, .int .u64 0]) (by simp [results, Tryz.results55, go_sem, z0, z1, z2, z3, z4]) rfl ⟨rfl, Only.ext EW.out ((Only.refl _ _).five _ _ _ _ _) (by omega)⟩
  · obtain ⟨m, hm⟩ : ∃ m : Nat, x = (m : Int) := ⟨x.natAbs, by omega⟩
    subst hm
    rw [de_small (z := (m : Int)) (m := m) (b := false) (by omega) (by unfold B64; omega) (decide_eq_false h)]
    have hw1 : IntKind.u64.wrap (m : Int) = (m : Int) := by rw [IntKind.wrap_u64]; omega
    go_enter Tryz.func55, Tryz.ntmps55
    go_upto_region 1 with fail
    rw [← HWW.out]
    go_wp2
    exact bodyPost_ret (v := .agg #[.bool false, .int .u64 (m : Int), .int .u64 0, .int .u64 0, .int .u64 0]) (by simp [results, Tryz.results55, go_sem, z0, z1, z2, z3, z4]) rfl ⟨rfl, Only.ext EW.out ((Only.refl _ _).five _ _ _ _ _) (by omega)⟩

/-- Two decimals that a region reads. -/
def DP10 (n : Nat) (b : Bool) (x0 x1 x2 x3 : Value) (c : Bool) (y0 y1 y2 y3 : Value) (w' : World) : Prop := w'.cell? ⟨n, 0, none⟩ = some (.bool b) ∧ w'.cell? ⟨n, 1, none⟩ = some x0 ∧ w'.cell? ⟨n, 2, none⟩ = some x1 ∧ w'.cell? ⟨n, 3, none⟩ = some x2 ∧ w'.cell? ⟨n, 4, none⟩ = some x3 ∧ w'.cell? ⟨n + 1, 0, none⟩ = some (.bool c) ∧ w'.cell? ⟨n + 1, 1, none⟩ = some y0 ∧ w'.cell? ⟨n + 1, 2, none⟩ = some y1 ∧ w'.cell? ⟨n + 1, 3, none⟩ = some y2 ∧ w'.cell? ⟨n + 1, 4, none⟩ = some y3
theorem DP10.ext {n : Nat} {b c : Bool} {x0 x1 x2 x3 y0 y1 y2 y3 : Value} {w w' : World} (h : DP10 n b x0 x1 x2 x3 c y0 y1 y2 y3 w) (e : Ext w w') : DP10 n b x0 x1 x2 x3 c y0 y1 y2 y3 w' :=
  ⟨e.cell' h.1, e.cell' h.2.1, e.cell' h.2.2.1, e.cell' h.2.2.2.1, e.cell' h.2.2.2.2.1, e.cell' h.2.2.2.2.2.1, e.cell' h.2.2.2.2.2.2.1, e.cell' h.2.2.2.2.2.2.2.1, e.cell' h.2.2.2.2.2.2.2.2.1, e.cell' h.2.2.2.2.2.2.2.2.2⟩
theorem DP10.drew {n : Nat} {b c : Bool} {x0 x1 x2 x3 y0 y1 y2 y3 : Value} {w : World} (h : DP10 n b x0 x1 x2 x3 c y0 y1 y2 y3 w) : DP10 n b x0 x1 x2 x3 c y0 y1 y2 y3 w.drew := h
theorem DP10.set5 {n q : Nat} {b c : Bool} {x0 x1 x2 x3 y0 y1 y2 y3 u0 u1 u2 u3 u4 : Value} {w : World} (h : DP10 n b x0 x1 x2 x3 c y0 y1 y2 y3 w) (h1 : n ≠ q) (h2 : n + 1 ≠ q) : DP10 n b x0 x1 x2 x3 c y0 y1 y2 y3 (((((w.setCell ⟨q, 0, none⟩ u0).setCell ⟨q, 1, none⟩ u1).setCell ⟨q, 2, none⟩ u2).setCell ⟨q, 3, none⟩ u3).setCell ⟨q, 4, none⟩ u4) := by
  have f : ∀ {g i : Nat} {v : Value}, g ≠ q → w.cell? ⟨g, i, none⟩ = some v → (((((w.setCell ⟨q, 0, none⟩ u0).setCell ⟨q, 1, none⟩ u1).setCell ⟨q, 2, none⟩ u2).setCell ⟨q, 3, none⟩ u3).setCell ⟨q, 4, none⟩ u4).cell? ⟨g, i, none⟩ = some v :=
    fun hg hc => set_far (set_far (set_far (set_far (set_far hc hg) hg) hg) hg) hg
  exact ⟨f h1 h.1, f h1 h.2.1, f h1 h.2.2.1, f h1 h.2.2.2.1, f h1 h.2.2.2.2.1, f h2 h.2.2.2.2.2.1, f h2 h.2.2.2.2.2.2.1, f h2 h.2.2.2.2.2.2.2.1, f h2 h.2.2.2.2.2.2.2.2.1, f h2 h.2.2.2.2.2.2.2.2.2⟩


set_option maxRecDepth 100000 in
set_option maxHeartbeats 2000000 in
theorem sPlusT (M N P : Nat) (r : Bool) (w : World)  (hP : ∀ W, Calls Tryz.prog 95 #[dn M, dn N] W (RetE (dn P) W)) (hR : ∀ W, Calls Tryz.prog 62 #[.bool true, dn P] W (RetE (deV r P) W)) :
    Calls Tryz.prog 58 #[deV true M, deV true N] w (RetE (deV r P) w) := by
  obtain ⟨W, hW⟩ : ∃ W, W = ((w.alloc (deBox true M)).alloc (deBox true N)).alloc zeroDe := ⟨_, rfl⟩
  have K0 := Lib.hid (show Blk W w.heap.size 39 [.bool true, dw M 0, dw M 1, dw M 2, dw M 3] by rw [hW]; exact ((blk_new0 w 39 [.bool true, dw M 0, dw M 1, dw M 2, dw M 3]).alloc _).alloc _)
  have K1 := Lib.hid (show Blk W (w.heap.size + 1) 39 [.bool true, dw N 0, dw N 1, dw N 2, dw N 3] by rw [hW]; exact (blk_new1 w (deBox true M) 39 [.bool true, dw N 0, dw N 1, dw N 2, dw N 3]).alloc _)
  have K2 := Lib.hid (show Blk W (w.heap.size + 2) 39 [.bool false, .int .u64 0, .int .u64 0, .int .u64 0, .int .u64 0] by rw [hW]; exact blk_new2 w _ _ 39 [.bool false, .int .u64 0, .int .u64 0, .int .u64 0, .int .u64 0])
  have EW := Lib.hid (show Ext w W by rw [hW]; exact ext3 _ _ _ _)
  have HWW := Lib.hid hW; clear hW
  have HP := Lib.hid hP; have HR := Lib.hid hR; clear hP hR
  have KS := Lib.hid (show DP10 w.heap.size true (dw M 0) (dw M 1) (dw M 2) (dw M 3) true (dw N 0) (dw N 1) (dw N 2) (dw N 3) W from by
    obtain ⟨a0, a1, a2, a3, a4, _⟩ := five_cells K0.out; obtain ⟨b0, b1, b2, b3, b4, _⟩ := five_cells K1.out
    exact ⟨a0, a1, a2, a3, a4, b0, b1, b2, b3, b4⟩)
  obtain ⟨a0, a1, a2, a3, a4, la⟩ := five_cells K0.out
  obtain ⟨b0, b1, b2, b3, b4, lb⟩ := five_cells K1.out
  have l2 := K2.out.lt
  go_enter Tryz.func58, Tryz.ntmps58
  go_wp2_with (fail)
  rw [← HWW.out]
  obtain ⟨W0, hW0⟩ : ∃ W0, W0 = W := ⟨_, rfl⟩
  have E0 := Lib.hid (show Ext W W0 by rw [hW0]; exact Ext.refl _)
  rw [← hW0]
  clear hW0
  have KS0 := Lib.hid (show DP10 w.heap.size true (dw M 0) (dw M 1) (dw M 2) (dw M 3) true (dw N 0) (dw N 1) (dw N 2) (dw N 3) W0 from KS.out.ext E0.out)
  have KS0d := Lib.hid (show DP10 w.heap.size true (dw M 0) (dw M 1) (dw M 2) (dw M 3) true (dw N 0) (dw N 1) (dw N 2) (dw N 3) W0.drew from KS0.out)
  have K20 := Lib.hid (K2.out.ext E0.out)
  clear a0 a1 a2 a3 a4 b0 b1 b2 b3 b4
  go_region_held3 (fun w' => w'.cell? ⟨w.heap.size, 0, none⟩ = some (.bool true) ∧ w'.cell? ⟨w.heap.size, 1, none⟩ = some (dw M 0) ∧ w'.cell? ⟨w.heap.size, 2, none⟩ = some (dw M 1) ∧ w'.cell? ⟨w.heap.size, 3, none⟩ = some (dw M 2) ∧ w'.cell? ⟨w.heap.size, 4, none⟩ = some (dw M 3) ∧ w'.cell? ⟨w.heap.size + 1, 0, none⟩ = some (.bool true) ∧ w'.cell? ⟨w.heap.size + 1, 1, none⟩ = some (dw N 0) ∧ w'.cell? ⟨w.heap.size + 1, 2, none⟩ = some (dw N 1) ∧ w'.cell? ⟨w.heap.size + 1, 3, none⟩ = some (dw N 2) ∧ w'.cell? ⟨w.heap.size + 1, 4, none⟩ = some (dw N 3)) ((show DP10 w.heap.size true (dw M 0) (dw M 1) (dw M 2) (dw M 3) true (dw N 0) (dw N 1) (dw N 2) (dw N 3) _; (repeat (first | (with_reducible refine DP10.drew ?_) | (with_reducible refine DP10.set5 ?_ ?_ ?_; rotate_left; omega; omega))); with_reducible first | exact KS2.out | exact KS1.out | exact KS0d.out | exact KS0.out)) (first | (go_at_call 95; (with_reducible refine (HP.out _).mono ?_); rintro e w1 ⟨rfl, hE⟩; have HE1 := Lib.hid (show Ext W0 w1 from Ext.undrew hE); have KS1 := Lib.hid (KS0.out.ext HE1.out); clear hE) | (go_at_call 62; (with_reducible refine (HR.out _).mono ?_); rintro e w2 ⟨rfl, hE⟩; have HE2 := Lib.hid (HE1.out.trans' hE); have KS2 := Lib.hid (KS0.out.ext HE2.out); have kz := Lib.hid (K20.out.ext HE2.out); obtain ⟨z0, z1, z2, z3, z4, lz⟩ := five_cells kz.out; obtain ⟨f0, f1, f2, f3, f4⟩ := five_frozen kz.out; clear hE))
  all_goals go_wp2
  all_goals exact bodyPost_ret (v := deV r P) (by simp [results, Tryz.results58, go_sem, z0, z1, z2, z3, z4]) rfl ⟨rfl, Only.ext ((EW.out.trans' E0.out).trans' HE2.out) ((Only.refl _ _).five _ _ _ _ _) (by omega)⟩

set_option maxRecDepth 100000 in
set_option maxHeartbeats 2000000 in
theorem sPlusF (M N P : Nat) (r : Bool) (w : World)  (hP : ∀ W, Calls Tryz.prog 95 #[dn M, dn N] W (RetE (dn P) W)) (hR : ∀ W, Calls Tryz.prog 62 #[.bool false, dn P] W (RetE (deV r P) W)) :
    Calls Tryz.prog 58 #[deV false M, deV false N] w (RetE (deV r P) w) := by
  obtain ⟨W, hW⟩ : ∃ W, W = ((w.alloc (deBox false M)).alloc (deBox false N)).alloc zeroDe := ⟨_, rfl⟩
  have K0 := Lib.hid (show Blk W w.heap.size 39 [.bool false, dw M 0, dw M 1, dw M 2, dw M 3] by rw [hW]; exact ((blk_new0 w 39 [.bool false, dw M 0, dw M 1, dw M 2, dw M 3]).alloc _).alloc _)
  have K1 := Lib.hid (show Blk W (w.heap.size + 1) 39 [.bool false, dw N 0, dw N 1, dw N 2, dw N 3] by rw [hW]; exact (blk_new1 w (deBox false M) 39 [.bool false, dw N 0, dw N 1, dw N 2, dw N 3]).alloc _)
  have K2 := Lib.hid (show Blk W (w.heap.size + 2) 39 [.bool false, .int .u64 0, .int .u64 0, .int .u64 0, .int .u64 0] by rw [hW]; exact blk_new2 w _ _ 39 [.bool false, .int .u64 0, .int .u64 0, .int .u64 0, .int .u64 0])
  have EW := Lib.hid (show Ext w W by rw [hW]; exact ext3 _ _ _ _)
  have HWW := Lib.hid hW; clear hW
  have HP := Lib.hid hP; have HR := Lib.hid hR; clear hP hR
  have KS := Lib.hid (show DP10 w.heap.size false (dw M 0) (dw M 1) (dw M 2) (dw M 3) false (dw N 0) (dw N 1) (dw N 2) (dw N 3) W from by
    obtain ⟨a0, a1, a2, a3, a4, _⟩ := five_cells K0.out; obtain ⟨b0, b1, b2, b3, b4, _⟩ := five_cells K1.out
    exact ⟨a0, a1, a2, a3, a4, b0, b1, b2, b3, b4⟩)
  obtain ⟨a0, a1, a2, a3, a4, la⟩ := five_cells K0.out
  obtain ⟨b0, b1, b2, b3, b4, lb⟩ := five_cells K1.out
  have l2 := K2.out.lt
  go_enter Tryz.func58, Tryz.ntmps58
  go_wp2_with (fail)
  rw [← HWW.out]
  obtain ⟨W0, hW0⟩ : ∃ W0, W0 = W := ⟨_, rfl⟩
  have E0 := Lib.hid (show Ext W W0 by rw [hW0]; exact Ext.refl _)
  rw [← hW0]
  clear hW0
  have KS0 := Lib.hid (show DP10 w.heap.size false (dw M 0) (dw M 1) (dw M 2) (dw M 3) false (dw N 0) (dw N 1) (dw N 2) (dw N 3) W0 from KS.out.ext E0.out)
  have KS0d := Lib.hid (show DP10 w.heap.size false (dw M 0) (dw M 1) (dw M 2) (dw M 3) false (dw N 0) (dw N 1) (dw N 2) (dw N 3) W0.drew from KS0.out)
  have K20 := Lib.hid (K2.out.ext E0.out)
  clear a0 a1 a2 a3 a4 b0 b1 b2 b3 b4
  go_region_held3 (fun w' => w'.cell? ⟨w.heap.size, 0, none⟩ = some (.bool false) ∧ w'.cell? ⟨w.heap.size, 1, none⟩ = some (dw M 0) ∧ w'.cell? ⟨w.heap.size, 2, none⟩ = some (dw M 1) ∧ w'.cell? ⟨w.heap.size, 3, none⟩ = some (dw M 2) ∧ w'.cell? ⟨w.heap.size, 4, none⟩ = some (dw M 3) ∧ w'.cell? ⟨w.heap.size + 1, 0, none⟩ = some (.bool false) ∧ w'.cell? ⟨w.heap.size + 1, 1, none⟩ = some (dw N 0) ∧ w'.cell? ⟨w.heap.size + 1, 2, none⟩ = some (dw N 1) ∧ w'.cell? ⟨w.heap.size + 1, 3, none⟩ = some (dw N 2) ∧ w'.cell? ⟨w.heap.size + 1, 4, none⟩ = some (dw N 3)) ((show DP10 w.heap.size false (dw M 0) (dw M 1) (dw M 2) (dw M 3) false (dw N 0) (dw N 1) (dw N 2) (dw N 3) _; (repeat (first | (with_reducible refine DP10.drew ?_) | (with_reducible refine DP10.set5 ?_ ?_ ?_; rotate_left; omega; omega))); with_reducible first | exact KS2.out | exact KS1.out | exact KS0d.out | exact KS0.out)) (first | (go_at_call 95; (with_reducible refine (HP.out _).mono ?_); rintro e w1 ⟨rfl, hE⟩; have HE1 := Lib.hid (show Ext W0 w1 from Ext.undrew hE); have KS1 := Lib.hid (KS0.out.ext HE1.out); clear hE) | (go_at_call 62; (with_reducible refine (HR.out _).mono ?_); rintro e w2 ⟨rfl, hE⟩; have HE2 := Lib.hid (HE1.out.trans' hE); have KS2 := Lib.hid (KS0.out.ext HE2.out); have kz := Lib.hid (K20.out.ext HE2.out); obtain ⟨z0, z1, z2, z3, z4, lz⟩ := five_cells kz.out; obtain ⟨f0, f1, f2, f3, f4⟩ := five_frozen kz.out; clear hE))
  all_goals go_wp2
  all_goals exact bodyPost_ret (v := deV r P) (by simp [results, Tryz.results58, go_sem, z0, z1, z2, z3, z4]) rfl ⟨rfl, Only.ext ((EW.out.trans' E0.out).trans' HE2.out) ((Only.refl _ _).five _ _ _ _ _) (by omega)⟩

set_option maxRecDepth 100000 in
set_option maxHeartbeats 2000000 in
theorem sPlusLttrue (M N P : Nat) (r : Bool) (w : World) (hM : M < B64 ^ 4) (hN : N < B64 ^ 4) (hlt : M < N)  (hP : ∀ W, Calls Tryz.prog 97 #[dn N, dn M] W (RetE (dn P) W)) (hR : ∀ W, Calls Tryz.prog 62 #[.bool false, dn P] W (RetE (deV r P) W)) :
    Calls Tryz.prog 58 #[deV true M, deV false N] w (RetE (deV r P) w) := by
  obtain ⟨W, hW⟩ : ∃ W, W = ((w.alloc (deBox true M)).alloc (deBox false N)).alloc zeroDe := ⟨_, rfl⟩
  have K0 := Lib.hid (show Blk W w.heap.size 39 [.bool true, dw M 0, dw M 1, dw M 2, dw M 3] by rw [hW]; exact ((blk_new0 w 39 [.bool true, dw M 0, dw M 1, dw M 2, dw M 3]).alloc _).alloc _)
  have K1 := Lib.hid (show Blk W (w.heap.size + 1) 39 [.bool false, dw N 0, dw N 1, dw N 2, dw N 3] by rw [hW]; exact (blk_new1 w (deBox true M) 39 [.bool false, dw N 0, dw N 1, dw N 2, dw N 3]).alloc _)
  have K2 := Lib.hid (show Blk W (w.heap.size + 2) 39 [.bool false, .int .u64 0, .int .u64 0, .int .u64 0, .int .u64 0] by rw [hW]; exact blk_new2 w _ _ 39 [.bool false, .int .u64 0, .int .u64 0, .int .u64 0, .int .u64 0])
  have EW := Lib.hid (show Ext w W by rw [hW]; exact ext3 _ _ _ _)
  have HWW := Lib.hid hW; clear hW
  have HP := Lib.hid hP; have HR := Lib.hid hR; clear hP hR
  have KS := Lib.hid (show DP10 w.heap.size true (dw M 0) (dw M 1) (dw M 2) (dw M 3) false (dw N 0) (dw N 1) (dw N 2) (dw N 3) W from by
    obtain ⟨a0, a1, a2, a3, a4, _⟩ := five_cells K0.out; obtain ⟨b0, b1, b2, b3, b4, _⟩ := five_cells K1.out
    exact ⟨a0, a1, a2, a3, a4, b0, b1, b2, b3, b4⟩)
  obtain ⟨a0, a1, a2, a3, a4, la⟩ := five_cells K0.out
  obtain ⟨b0, b1, b2, b3, b4, lb⟩ := five_cells K1.out
  have l2 := K2.out.lt
  go_enter Tryz.func58, Tryz.ntmps58
  go_wp2_with (fail)
  rw [← HWW.out]
  go_at_call 96
  refine (nBelow M N _ hM hN).mono ?_
  rw [decide_eq_true hlt]
  rintro e W0 ⟨rfl, hE⟩
  have E0 := Lib.hid (show Ext W W0 from hE); clear hE
  have KSx := KS.out.ext E0.out
  obtain ⟨a0, a1, a2, a3, a4, b0, b1, b2, b3, b4⟩ := KSx
  go_wp2_with (fail)
  have KS0 := Lib.hid (show DP10 w.heap.size true (dw M 0) (dw M 1) (dw M 2) (dw M 3) false (dw N 0) (dw N 1) (dw N 2) (dw N 3) W0 from KS.out.ext E0.out)
  have KS0d := Lib.hid (show DP10 w.heap.size true (dw M 0) (dw M 1) (dw M 2) (dw M 3) false (dw N 0) (dw N 1) (dw N 2) (dw N 3) W0.drew from KS0.out)
  have K20 := Lib.hid (K2.out.ext E0.out)
  clear a0 a1 a2 a3 a4 b0 b1 b2 b3 b4
  go_region_held3 (fun w' => w'.cell? ⟨w.heap.size, 0, none⟩ = some (.bool true) ∧ w'.cell? ⟨w.heap.size, 1, none⟩ = some (dw M 0) ∧ w'.cell? ⟨w.heap.size, 2, none⟩ = some (dw M 1) ∧ w'.cell? ⟨w.heap.size, 3, none⟩ = some (dw M 2) ∧ w'.cell? ⟨w.heap.size, 4, none⟩ = some (dw M 3) ∧ w'.cell? ⟨w.heap.size + 1, 0, none⟩ = some (.bool false) ∧ w'.cell? ⟨w.heap.size + 1, 1, none⟩ = some (dw N 0) ∧ w'.cell? ⟨w.heap.size + 1, 2, none⟩ = some (dw N 1) ∧ w'.cell? ⟨w.heap.size + 1, 3, none⟩ = some (dw N 2) ∧ w'.cell? ⟨w.heap.size + 1, 4, none⟩ = some (dw N 3)) ((show DP10 w.heap.size true (dw M 0) (dw M 1) (dw M 2) (dw M 3) false (dw N 0) (dw N 1) (dw N 2) (dw N 3) _; (repeat (first | (with_reducible refine DP10.drew ?_) | (with_reducible refine DP10.set5 ?_ ?_ ?_; rotate_left; omega; omega))); with_reducible first | exact KS2.out | exact KS1.out | exact KS0d.out | exact KS0.out)) (first | (go_at_call 97; (with_reducible refine (HP.out _).mono ?_); rintro e w1 ⟨rfl, hE⟩; have HE1 := Lib.hid (show Ext W0 w1 from Ext.undrew hE); have KS1 := Lib.hid (KS0.out.ext HE1.out); clear hE) | (go_at_call 62; (with_reducible refine (HR.out _).mono ?_); rintro e w2 ⟨rfl, hE⟩; have HE2 := Lib.hid (HE1.out.trans' hE); have KS2 := Lib.hid (KS0.out.ext HE2.out); have kz := Lib.hid (K20.out.ext HE2.out); obtain ⟨z0, z1, z2, z3, z4, lz⟩ := five_cells kz.out; obtain ⟨f0, f1, f2, f3, f4⟩ := five_frozen kz.out; clear hE))
  all_goals go_wp2
  all_goals exact bodyPost_ret (v := deV r P) (by simp [results, Tryz.results58, go_sem, z0, z1, z2, z3, z4]) rfl ⟨rfl, Only.ext ((EW.out.trans' E0.out).trans' HE2.out) ((Only.refl _ _).five _ _ _ _ _) (by omega)⟩

set_option maxRecDepth 100000 in
set_option maxHeartbeats 2000000 in
theorem sPlusGetrue (M N P : Nat) (r : Bool) (w : World) (hM : M < B64 ^ 4) (hN : N < B64 ^ 4) (hlt : ¬ M < N)  (hP : ∀ W, Calls Tryz.prog 97 #[dn M, dn N] W (RetE (dn P) W)) (hR : ∀ W, Calls Tryz.prog 62 #[.bool true, dn P] W (RetE (deV r P) W)) :
    Calls Tryz.prog 58 #[deV true M, deV false N] w (RetE (deV r P) w) := by
  obtain ⟨W, hW⟩ : ∃ W, W = ((w.alloc (deBox true M)).alloc (deBox false N)).alloc zeroDe := ⟨_, rfl⟩
  have K0 := Lib.hid (show Blk W w.heap.size 39 [.bool true, dw M 0, dw M 1, dw M 2, dw M 3] by rw [hW]; exact ((blk_new0 w 39 [.bool true, dw M 0, dw M 1, dw M 2, dw M 3]).alloc _).alloc _)
  have K1 := Lib.hid (show Blk W (w.heap.size + 1) 39 [.bool false, dw N 0, dw N 1, dw N 2, dw N 3] by rw [hW]; exact (blk_new1 w (deBox true M) 39 [.bool false, dw N 0, dw N 1, dw N 2, dw N 3]).alloc _)
  have K2 := Lib.hid (show Blk W (w.heap.size + 2) 39 [.bool false, .int .u64 0, .int .u64 0, .int .u64 0, .int .u64 0] by rw [hW]; exact blk_new2 w _ _ 39 [.bool false, .int .u64 0, .int .u64 0, .int .u64 0, .int .u64 0])
  have EW := Lib.hid (show Ext w W by rw [hW]; exact ext3 _ _ _ _)
  have HWW := Lib.hid hW; clear hW
  have HP := Lib.hid hP; have HR := Lib.hid hR; clear hP hR
  have KS := Lib.hid (show DP10 w.heap.size true (dw M 0) (dw M 1) (dw M 2) (dw M 3) false (dw N 0) (dw N 1) (dw N 2) (dw N 3) W from by
    obtain ⟨a0, a1, a2, a3, a4, _⟩ := five_cells K0.out; obtain ⟨b0, b1, b2, b3, b4, _⟩ := five_cells K1.out
    exact ⟨a0, a1, a2, a3, a4, b0, b1, b2, b3, b4⟩)
  obtain ⟨a0, a1, a2, a3, a4, la⟩ := five_cells K0.out
  obtain ⟨b0, b1, b2, b3, b4, lb⟩ := five_cells K1.out
  have l2 := K2.out.lt
  go_enter Tryz.func58, Tryz.ntmps58
  go_wp2_with (fail)
  rw [← HWW.out]
  go_at_call 96
  refine (nBelow M N _ hM hN).mono ?_
  rw [decide_eq_false hlt]
  rintro e W0 ⟨rfl, hE⟩
  have E0 := Lib.hid (show Ext W W0 from hE); clear hE
  have KSx := KS.out.ext E0.out
  obtain ⟨a0, a1, a2, a3, a4, b0, b1, b2, b3, b4⟩ := KSx
  go_wp2_with (fail)
  have KS0 := Lib.hid (show DP10 w.heap.size true (dw M 0) (dw M 1) (dw M 2) (dw M 3) false (dw N 0) (dw N 1) (dw N 2) (dw N 3) W0 from KS.out.ext E0.out)
  have KS0d := Lib.hid (show DP10 w.heap.size true (dw M 0) (dw M 1) (dw M 2) (dw M 3) false (dw N 0) (dw N 1) (dw N 2) (dw N 3) W0.drew from KS0.out)
  have K20 := Lib.hid (K2.out.ext E0.out)
  clear a0 a1 a2 a3 a4 b0 b1 b2 b3 b4
  go_region_held3 (fun w' => w'.cell? ⟨w.heap.size, 0, none⟩ = some (.bool true) ∧ w'.cell? ⟨w.heap.size, 1, none⟩ = some (dw M 0) ∧ w'.cell? ⟨w.heap.size, 2, none⟩ = some (dw M 1) ∧ w'.cell? ⟨w.heap.size, 3, none⟩ = some (dw M 2) ∧ w'.cell? ⟨w.heap.size, 4, none⟩ = some (dw M 3) ∧ w'.cell? ⟨w.heap.size + 1, 0, none⟩ = some (.bool false) ∧ w'.cell? ⟨w.heap.size + 1, 1, none⟩ = some (dw N 0) ∧ w'.cell? ⟨w.heap.size + 1, 2, none⟩ = some (dw N 1) ∧ w'.cell? ⟨w.heap.size + 1, 3, none⟩ = some (dw N 2) ∧ w'.cell? ⟨w.heap.size + 1, 4, none⟩ = some (dw N 3)) ((show DP10 w.heap.size true (dw M 0) (dw M 1) (dw M 2) (dw M 3) false (dw N 0) (dw N 1) (dw N 2) (dw N 3) _; (repeat (first | (with_reducible refine DP10.drew ?_) | (with_reducible refine DP10.set5 ?_ ?_ ?_; rotate_left; omega; omega))); with_reducible first | exact KS2.out | exact KS1.out | exact KS0d.out | exact KS0.out)) (first | (go_at_call 97; (with_reducible refine (HP.out _).mono ?_); rintro e w1 ⟨rfl, hE⟩; have HE1 := Lib.hid (show Ext W0 w1 from Ext.undrew hE); have KS1 := Lib.hid (KS0.out.ext HE1.out); clear hE) | (go_at_call 62; (with_reducible refine (HR.out _).mono ?_); rintro e w2 ⟨rfl, hE⟩; have HE2 := Lib.hid (HE1.out.trans' hE); have KS2 := Lib.hid (KS0.out.ext HE2.out); have kz := Lib.hid (K20.out.ext HE2.out); obtain ⟨z0, z1, z2, z3, z4, lz⟩ := five_cells kz.out; obtain ⟨f0, f1, f2, f3, f4⟩ := five_frozen kz.out; clear hE))
  all_goals go_wp2
  all_goals exact bodyPost_ret (v := deV r P) (by simp [results, Tryz.results58, go_sem, z0, z1, z2, z3, z4]) rfl ⟨rfl, Only.ext ((EW.out.trans' E0.out).trans' HE2.out) ((Only.refl _ _).five _ _ _ _ _) (by omega)⟩

set_option maxRecDepth 100000 in
set_option maxHeartbeats 2000000 in
theorem sPlusLtfalse (M N P : Nat) (r : Bool) (w : World) (hM : M < B64 ^ 4) (hN : N < B64 ^ 4) (hlt : M < N)  (hP : ∀ W, Calls Tryz.prog 97 #[dn N, dn M] W (RetE (dn P) W)) (hR : ∀ W, Calls Tryz.prog 62 #[.bool true, dn P] W (RetE (deV r P) W)) :
    Calls Tryz.prog 58 #[deV false M, deV true N] w (RetE (deV r P) w) := by
  obtain ⟨W, hW⟩ : ∃ W, W = ((w.alloc (deBox false M)).alloc (deBox true N)).alloc zeroDe := ⟨_, rfl⟩
  have K0 := Lib.hid (show Blk W w.heap.size 39 [.bool false, dw M 0, dw M 1, dw M 2, dw M 3] by rw [hW]; exact ((blk_new0 w 39 [.bool false, dw M 0, dw M 1, dw M 2, dw M 3]).alloc _).alloc _)
  have K1 := Lib.hid (show Blk W (w.heap.size + 1) 39 [.bool true, dw N 0, dw N 1, dw N 2, dw N 3] by rw [hW]; exact (blk_new1 w (deBox false M) 39 [.bool true, dw N 0, dw N 1, dw N 2, dw N 3]).alloc _)
  have K2 := Lib.hid (show Blk W (w.heap.size + 2) 39 [.bool false, .int .u64 0, .int .u64 0, .int .u64 0, .int .u64 0] by rw [hW]; exact blk_new2 w _ _ 39 [.bool false, .int .u64 0, .int .u64 0, .int .u64 0, .int .u64 0])
  have EW := Lib.hid (show Ext w W by rw [hW]; exact ext3 _ _ _ _)
  have HWW := Lib.hid hW; clear hW
  have HP := Lib.hid hP; have HR := Lib.hid hR; clear hP hR
  have KS := Lib.hid (show DP10 w.heap.size false (dw M 0) (dw M 1) (dw M 2) (dw M 3) true (dw N 0) (dw N 1) (dw N 2) (dw N 3) W from by
    obtain ⟨a0, a1, a2, a3, a4, _⟩ := five_cells K0.out; obtain ⟨b0, b1, b2, b3, b4, _⟩ := five_cells K1.out
    exact ⟨a0, a1, a2, a3, a4, b0, b1, b2, b3, b4⟩)
  obtain ⟨a0, a1, a2, a3, a4, la⟩ := five_cells K0.out
  obtain ⟨b0, b1, b2, b3, b4, lb⟩ := five_cells K1.out
  have l2 := K2.out.lt
  go_enter Tryz.func58, Tryz.ntmps58
  go_wp2_with (fail)
  rw [← HWW.out]
  go_at_call 96
  refine (nBelow M N _ hM hN).mono ?_
  rw [decide_eq_true hlt]
  rintro e W0 ⟨rfl, hE⟩
  have E0 := Lib.hid (show Ext W W0 from hE); clear hE
  have KSx := KS.out.ext E0.out
  obtain ⟨a0, a1, a2, a3, a4, b0, b1, b2, b3, b4⟩ := KSx
  go_wp2_with (fail)
  have KS0 := Lib.hid (show DP10 w.heap.size false (dw M 0) (dw M 1) (dw M 2) (dw M 3) true (dw N 0) (dw N 1) (dw N 2) (dw N 3) W0 from KS.out.ext E0.out)
  have KS0d := Lib.hid (show DP10 w.heap.size false (dw M 0) (dw M 1) (dw M 2) (dw M 3) true (dw N 0) (dw N 1) (dw N 2) (dw N 3) W0.drew from KS0.out)
  have K20 := Lib.hid (K2.out.ext E0.out)
  clear a0 a1 a2 a3 a4 b0 b1 b2 b3 b4
  go_region_held3 (fun w' => w'.cell? ⟨w.heap.size, 0, none⟩ = some (.bool false) ∧ w'.cell? ⟨w.heap.size, 1, none⟩ = some (dw M 0) ∧ w'.cell? ⟨w.heap.size, 2, none⟩ = some (dw M 1) ∧ w'.cell? ⟨w.heap.size, 3, none⟩ = some (dw M 2) ∧ w'.cell? ⟨w.heap.size, 4, none⟩ = some (dw M 3) ∧ w'.cell? ⟨w.heap.size + 1, 0, none⟩ = some (.bool true) ∧ w'.cell? ⟨w.heap.size + 1, 1, none⟩ = some (dw N 0) ∧ w'.cell? ⟨w.heap.size + 1, 2, none⟩ = some (dw N 1) ∧ w'.cell? ⟨w.heap.size + 1, 3, none⟩ = some (dw N 2) ∧ w'.cell? ⟨w.heap.size + 1, 4, none⟩ = some (dw N 3)) ((show DP10 w.heap.size false (dw M 0) (dw M 1) (dw M 2) (dw M 3) true (dw N 0) (dw N 1) (dw N 2) (dw N 3) _; (repeat (first | (with_reducible refine DP10.drew ?_) | (with_reducible refine DP10.set5 ?_ ?_ ?_; rotate_left; omega; omega))); with_reducible first | exact KS2.out | exact KS1.out | exact KS0d.out | exact KS0.out)) (first | (go_at_call 97; (with_reducible refine (HP.out _).mono ?_); rintro e w1 ⟨rfl, hE⟩; have HE1 := Lib.hid (show Ext W0 w1 from Ext.undrew hE); have KS1 := Lib.hid (KS0.out.ext HE1.out); clear hE) | (go_at_call 62; (with_reducible refine (HR.out _).mono ?_); rintro e w2 ⟨rfl, hE⟩; have HE2 := Lib.hid (HE1.out.trans' hE); have KS2 := Lib.hid (KS0.out.ext HE2.out); have kz := Lib.hid (K20.out.ext HE2.out); obtain ⟨z0, z1, z2, z3, z4, lz⟩ := five_cells kz.out; obtain ⟨f0, f1, f2, f3, f4⟩ := five_frozen kz.out; clear hE))
  all_goals go_wp2
  all_goals exact bodyPost_ret (v := deV r P) (by simp [results, Tryz.results58, go_sem, z0, z1, z2, z3, z4]) rfl ⟨rfl, Only.ext ((EW.out.trans' E0.out).trans' HE2.out) ((Only.refl _ _).five _ _ _ _ _) (by omega)⟩

set_option maxRecDepth 100000 in
set_option maxHeartbeats 2000000 in
theorem sPlusGefalse (M N P : Nat) (r : Bool) (w : World) (hM : M < B64 ^ 4) (hN : N < B64 ^ 4) (hlt : ¬ M < N)  (hP : ∀ W, Calls Tryz.prog 97 #[dn M, dn N] W (RetE (dn P) W)) (hR : ∀ W, Calls Tryz.prog 62 #[.bool false, dn P] W (RetE (deV r P) W)) :
    Calls Tryz.prog 58 #[deV false M, deV true N] w (RetE (deV r P) w) := by
  obtain ⟨W, hW⟩ : ∃ W, W = ((w.alloc (deBox false M)).alloc (deBox true N)).alloc zeroDe := ⟨_, rfl⟩
  have K0 := Lib.hid (show Blk W w.heap.size 39 [.bool false, dw M 0, dw M 1, dw M 2, dw M 3] by rw [hW]; exact ((blk_new0 w 39 [.bool false, dw M 0, dw M 1, dw M 2, dw M 3]).alloc _).alloc _)
  have K1 := Lib.hid (show Blk W (w.heap.size + 1) 39 [.bool true, dw N 0, dw N 1, dw N 2, dw N 3] by rw [hW]; exact (blk_new1 w (deBox false M) 39 [.bool true, dw N 0, dw N 1, dw N 2, dw N 3]).alloc _)
  have K2 := Lib.hid (show Blk W (w.heap.size + 2) 39 [.bool false, .int .u64 0, .int .u64 0, .int .u64 0, .int .u64 0] by rw [hW]; exact blk_new2 w _ _ 39 [.bool false, .int .u64 0, .int .u64 0, .int .u64 0, .int .u64 0])
  have EW := Lib.hid (show Ext w W by rw [hW]; exact ext3 _ _ _ _)
  have HWW := Lib.hid hW; clear hW
  have HP := Lib.hid hP; have HR := Lib.hid hR; clear hP hR
  have KS := Lib.hid (show DP10 w.heap.size false (dw M 0) (dw M 1) (dw M 2) (dw M 3) true (dw N 0) (dw N 1) (dw N 2) (dw N 3) W from by
    obtain ⟨a0, a1, a2, a3, a4, _⟩ := five_cells K0.out; obtain ⟨b0, b1, b2, b3, b4, _⟩ := five_cells K1.out
    exact ⟨a0, a1, a2, a3, a4, b0, b1, b2, b3, b4⟩)
  obtain ⟨a0, a1, a2, a3, a4, la⟩ := five_cells K0.out
  obtain ⟨b0, b1, b2, b3, b4, lb⟩ := five_cells K1.out
  have l2 := K2.out.lt
  go_enter Tryz.func58, Tryz.ntmps58
  go_wp2_with (fail)
  rw [← HWW.out]
  go_at_call 96
  refine (nBelow M N _ hM hN).mono ?_
  rw [decide_eq_false hlt]
  rintro e W0 ⟨rfl, hE⟩
  have E0 := Lib.hid (show Ext W W0 from hE); clear hE
  have KSx := KS.out.ext E0.out
  obtain ⟨a0, a1, a2, a3, a4, b0, b1, b2, b3, b4⟩ := KSx
  go_wp2_with (fail)
  have KS0 := Lib.hid (show DP10 w.heap.size false (dw M 0) (dw M 1) (dw M 2) (dw M 3) true (dw N 0) (dw N 1) (dw N 2) (dw N 3) W0 from KS.out.ext E0.out)
  have KS0d := Lib.hid (show DP10 w.heap.size false (dw M 0) (dw M 1) (dw M 2) (dw M 3) true (dw N 0) (dw N 1) (dw N 2) (dw N 3) W0.drew from KS0.out)
  have K20 := Lib.hid (K2.out.ext E0.out)
  clear a0 a1 a2 a3 a4 b0 b1 b2 b3 b4
  go_region_held3 (fun w' => w'.cell? ⟨w.heap.size, 0, none⟩ = some (.bool false) ∧ w'.cell? ⟨w.heap.size, 1, none⟩ = some (dw M 0) ∧ w'.cell? ⟨w.heap.size, 2, none⟩ = some (dw M 1) ∧ w'.cell? ⟨w.heap.size, 3, none⟩ = some (dw M 2) ∧ w'.cell? ⟨w.heap.size, 4, none⟩ = some (dw M 3) ∧ w'.cell? ⟨w.heap.size + 1, 0, none⟩ = some (.bool true) ∧ w'.cell? ⟨w.heap.size + 1, 1, none⟩ = some (dw N 0) ∧ w'.cell? ⟨w.heap.size + 1, 2, none⟩ = some (dw N 1) ∧ w'.cell? ⟨w.heap.size + 1, 3, none⟩ = some (dw N 2) ∧ w'.cell? ⟨w.heap.size + 1, 4, none⟩ = some (dw N 3)) ((show DP10 w.heap.size false (dw M 0) (dw M 1) (dw M 2) (dw M 3) true (dw N 0) (dw N 1) (dw N 2) (dw N 3) _; (repeat (first | (with_reducible refine DP10.drew ?_) | (with_reducible refine DP10.set5 ?_ ?_ ?_; rotate_left; omega; omega))); with_reducible first | exact KS2.out | exact KS1.out | exact KS0d.out | exact KS0.out)) (first | (go_at_call 97; (with_reducible refine (HP.out _).mono ?_); rintro e w1 ⟨rfl, hE⟩; have HE1 := Lib.hid (show Ext W0 w1 from Ext.undrew hE); have KS1 := Lib.hid (KS0.out.ext HE1.out); clear hE) | (go_at_call 62; (with_reducible refine (HR.out _).mono ?_); rintro e w2 ⟨rfl, hE⟩; have HE2 := Lib.hid (HE1.out.trans' hE); have KS2 := Lib.hid (KS0.out.ext HE2.out); have kz := Lib.hid (K20.out.ext HE2.out); obtain ⟨z0, z1, z2, z3, z4, lz⟩ := five_cells kz.out; obtain ⟨f0, f1, f2, f3, f4⟩ := five_frozen kz.out; clear hE))
  all_goals go_wp2
  all_goals exact bodyPost_ret (v := deV r P) (by simp [results, Tryz.results58, go_sem, z0, z1, z2, z3, z4]) rfl ⟨rfl, Only.ext ((EW.out.trans' E0.out).trans' HE2.out) ((Only.refl _ _).five _ _ _ _ _) (by omega)⟩

theorem sPlus (y z : Int) (w : World) (h : y.natAbs + z.natAbs < B64 ^ 4) : Calls Tryz.prog 58 #[de y, de z] w (RetE (de (y + z)) w) := by
  have key : ∀ (r : Bool) (P : Nat), (y + z).natAbs = P → decide (y + z < 0) = r → de (y + z) = deV r P := fun r P h1 h2 => by unfold de; rw [h1, h2]
  by_cases hy : y < 0
  · rw [de_neg hy]
    by_cases hz : z < 0
    · rw [de_neg hz, key (decide (y.natAbs + z.natAbs ≠ 0)) (y.natAbs + z.natAbs) (by omega) (by rw [decide_eq_true (by omega), decide_eq_true (by omega)])]
      exact sPlusT _ _ _ _ w (fun W => nPlus _ _ W) (fun W => sMadeT _ W h)
    · rw [de_pos hz]
      by_cases hlt : y.natAbs < z.natAbs
      · rw [key false (z.natAbs - y.natAbs) (by omega) (decide_eq_false (by omega))]
        exact sPlusLttrue _ _ _ _ w (by omega) (by omega) hlt (fun W => nMinus _ _ W (by omega)) (fun W => sMadeF _ W)
      · rw [key (decide (y.natAbs - z.natAbs ≠ 0)) (y.natAbs - z.natAbs) (by omega) (by by_cases e : y.natAbs - z.natAbs = 0 <;> simp [e] <;> omega)]
        exact sPlusGetrue _ _ _ _ w (by omega) (by omega) hlt (fun W => nMinus _ _ W (by omega)) (fun W => sMadeT _ W (by omega))
  · rw [de_pos hy]
    by_cases hz : z < 0
    · rw [de_neg hz]
      by_cases hlt : y.natAbs < z.natAbs
      · rw [key (decide (z.natAbs - y.natAbs ≠ 0)) (z.natAbs - y.natAbs) (by omega) (by by_cases e : z.natAbs - y.natAbs = 0 <;> simp [e] <;> omega)]
        exact sPlusLtfalse _ _ _ _ w (by omega) (by omega) hlt (fun W => nMinus _ _ W (by omega)) (fun W => sMadeT _ W (by omega))
      · rw [key false (y.natAbs - z.natAbs) (by omega) (decide_eq_false (by omega))]
        exact sPlusGefalse _ _ _ _ w (by omega) (by omega) hlt (fun W => nMinus _ _ W (by omega)) (fun W => sMadeF _ W)
    · rw [de_pos hz, key false (y.natAbs + z.natAbs) (by omega) (decide_eq_false (by omega))]
      exact sPlusF _ _ _ _ w (fun W => nPlus _ _ W) (fun W => sMadeF _ W)
end Go.Proofs.YtcoffndnfaemoaaGreatDoor

namespace Go.Proofs.YtcoffndnfaemoaaGreatDoor
open Go Go.RowKit

theorem RetE.eq {v v' : Value} {w : World} {e : Ending} {w' : World} (h : RetE v w e w') (hv : v = v') : RetE v' w e w' := hv ▸ h
set_option maxRecDepth 100000 in
set_option maxHeartbeats 2000000 in
theorem sMinusG (b c d : Bool) (M N : Nat) (V : Value) (w : World) (hV : ∃ r P, V = deV r P) (hM : ∀ W, Calls Tryz.prog 62 #[.bool (!c), dn N] W (RetE (deV d N) W)) (hP : ∀ W, Calls Tryz.prog 58 #[deV b M, deV d N] W (RetE V W)) :
    Calls Tryz.prog 27 #[deV b M, deV c N] w (RetE V w) := by
  obtain ⟨r, P, rfl⟩ := hV
  obtain ⟨W, hW⟩ : ∃ W, W = ((w.alloc (deBox b M)).alloc (deBox c N)).alloc zeroDe := ⟨_, rfl⟩
  have K0 := Lib.hid (show Blk W w.heap.size 39 [.bool b, dw M 0, dw M 1, dw M 2, dw M 3] by rw [hW]; exact ((blk_new0 w 39 [.bool b, dw M 0, dw M 1, dw M 2, dw M 3]).alloc _).alloc _)
  have K1 := Lib.hid (show Blk W (w.heap.size + 1) 39 [.bool c, dw N 0, dw N 1, dw N 2, dw N 3] by rw [hW]; exact (blk_new1 w (deBox b M) 39 [.bool c, dw N 0, dw N 1, dw N 2, dw N 3]).alloc _)
  have K2 := Lib.hid (show Blk W (w.heap.size + 2) 39 [.bool false, .int .u64 0, .int .u64 0, .int .u64 0, .int .u64 0] by rw [hW]; exact blk_new2 w _ _ 39 [.bool false, .int .u64 0, .int .u64 0, .int .u64 0, .int .u64 0])
  have EW := Lib.hid (show Ext w W by rw [hW]; exact ext3 _ _ _ _)
  have HWW := Lib.hid hW; clear hW
  have HP := Lib.hid hP; have HM := Lib.hid hM; clear hP hM
  have KS0 := Lib.hid (show DP10 w.heap.size b (dw M 0) (dw M 1) (dw M 2) (dw M 3) c (dw N 0) (dw N 1) (dw N 2) (dw N 3) W from by
    obtain ⟨a0, a1, a2, a3, a4, _⟩ := five_cells K0.out; obtain ⟨b0, b1, b2, b3, b4, _⟩ := five_cells K1.out
    exact ⟨a0, a1, a2, a3, a4, b0, b1, b2, b3, b4⟩)
  have KS0d := Lib.hid (show DP10 w.heap.size b (dw M 0) (dw M 1) (dw M 2) (dw M 3) c (dw N 0) (dw N 1) (dw N 2) (dw N 3) W.drew from KS0.out)
  have la := K0.out.lt; have lb := K1.out.lt; have l2 := K2.out.lt
  go_enter Tryz.func27, Tryz.ntmps27
  go_upto_region 1 with fail
  rw [← HWW.out]
  go_region_held3 (fun w' => w'.cell? ⟨w.heap.size, 0, none⟩ = some (.bool b) ∧ w'.cell? ⟨w.heap.size, 1, none⟩ = some (dw M 0) ∧ w'.cell? ⟨w.heap.size, 2, none⟩ = some (dw M 1) ∧ w'.cell? ⟨w.heap.size, 3, none⟩ = some (dw M 2) ∧ w'.cell? ⟨w.heap.size, 4, none⟩ = some (dw M 3) ∧ w'.cell? ⟨w.heap.size + 1, 0, none⟩ = some (.bool c) ∧ w'.cell? ⟨w.heap.size + 1, 1, none⟩ = some (dw N 0) ∧ w'.cell? ⟨w.heap.size + 1, 2, none⟩ = some (dw N 1) ∧ w'.cell? ⟨w.heap.size + 1, 3, none⟩ = some (dw N 2) ∧ w'.cell? ⟨w.heap.size + 1, 4, none⟩ = some (dw N 3)) ((show DP10 w.heap.size b (dw M 0) (dw M 1) (dw M 2) (dw M 3) c (dw N 0) (dw N 1) (dw N 2) (dw N 3) _; (repeat (first | (with_reducible refine DP10.drew ?_) | (with_reducible refine DP10.set5 ?_ ?_ ?_; rotate_left; omega; omega))); with_reducible first | exact KS2.out | exact KS1.out | exact KS0d.out | exact KS0.out)) (first | (go_at_call 62; (with_reducible refine (HM.out _).mono ?_); rintro e w1 ⟨rfl, hE⟩; have HE1 := Lib.hid (show Ext W w1 from Ext.undrew hE); have KS1 := Lib.hid (KS0.out.ext HE1.out); clear hE) | (go_at_call 58; (with_reducible refine (HP.out _).mono ?_); rintro e w2 ⟨rfl, hE⟩; have HE2 := Lib.hid (HE1.out.trans' hE); have KS2 := Lib.hid (KS0.out.ext HE2.out); have kz := Lib.hid (K2.out.ext HE2.out); obtain ⟨z0, z1, z2, z3, z4, lz⟩ := five_cells kz.out; obtain ⟨f0, f1, f2, f3, f4⟩ := five_frozen kz.out; clear hE))
  all_goals go_wp2
  all_goals exact bodyPost_ret (v := deV r P) (by simp [results, Tryz.results27, go_sem, z0, z1, z2, z3, z4]) rfl ⟨rfl, Only.ext (EW.out.trans' HE2.out) ((Only.refl _ _).five _ _ _ _ _) (by omega)⟩
theorem sMinus (y z : Int) (w : World) (h : y.natAbs + z.natAbs < B64 ^ 4) : Calls Tryz.prog 27 #[de y, de z] w (RetE (de (y - z)) w) := by
  have e : deV (decide (-z < 0)) z.natAbs = de (-z) := by unfold de; rw [Int.natAbs_neg]
  have hp : ∀ W, Calls Tryz.prog 58 #[de y, de (-z)] W (RetE (de (y - z)) W) := fun W => by
    rw [Int.sub_eq_add_neg]; exact sPlus y (-z) W (by rw [Int.natAbs_neg]; exact h)
  rw [← e] at hp
  refine sMinusG (decide (y < 0)) (decide (z < 0)) (decide (-z < 0)) y.natAbs z.natAbs _ w ⟨_, _, rfl⟩ (fun W => ?_) hp
  by_cases hz : z < 0
  · rw [decide_eq_true hz, decide_eq_false (show ¬ -z < 0 by omega)]
    exact sMadeF _ W
  · rw [decide_eq_false hz]
    have hd : decide (-z < 0) = decide (z.natAbs ≠ 0) := by rw [decide_eq_decide]; omega
    rw [hd]
    exact sMadeT _ W (by omega)

/-- The new variable of DeciOf. -/
def OfBox (b : Bool) (P : Nat) (W : World) (u : Value) (wx : World) : Prop := ∃ q, u = .pointer (some ⟨q, 0, none⟩) ∧ Blk wx q 39 [.bool b, dw P 0, dw P 1, dw P 2, dw P 3] ∧ Ext W wx ∧ W.heap.size ≤ q
theorem Only.four {g : Nat} {w w' : World} (h : Only g w w') (b c d e : Value) : Only g w ((((w'.setCell ⟨g, 1, none⟩ b).setCell ⟨g, 2, none⟩ c).setCell ⟨g, 3, none⟩ d).setCell ⟨g, 4, none⟩ e) := (((h.set_ 1 _).set_ 2 _).set_ 3 _).set_ 4 _
theorem ofBox_end {b : Bool} {P : Nat} {W w2 : World} {q : Nat} {x0 x1 x2 x3 : Value} (h : Blk w2 q 39 [.bool b, x0, x1, x2, x3]) (e : Ext W w2) (hq : W.heap.size ≤ q) :
    OfBox b P W (.pointer (some ⟨q, 0, none⟩)) ((((w2.setCell ⟨q, 1, none⟩ (dw P 0)).setCell ⟨q, 2, none⟩ (dw P 1)).setCell ⟨q, 3, none⟩ (dw P 2)).setCell ⟨q, 4, none⟩ (dw P 3)) :=
  ⟨q, rfl, (((h.set_ 1 _).set_ 2 _).set_ 3 _).set_ 4 _, Only.ext e ((Only.refl _ _).four _ _ _ _) hq, hq⟩

set_option maxRecDepth 100000 in
set_option maxHeartbeats 2000000 in
theorem sOfG (x y k0 k1 k2 k3 : Int) (P T : Nat) (b : Bool) (V : Value) (w : World) (hV : ∃ r P, V = deV r P) (hX : ∀ W, Calls Tryz.prog 55 #[.int .i64 x] W (RetE (.agg #[.bool b, .int .u64 k0, .int .u64 k1, .int .u64 k2, .int .u64 k3]) W)) (hT : ∀ W, Calls Tryz.prog 57 #[.int .i64 18] W (RetE (dn T) W))
    (hM : ∀ W, Calls Tryz.prog 56 #[.agg #[.int .u64 k0, .int .u64 k1, .int .u64 k2, .int .u64 k3], dn T] W (RetE (dn P) W)) (hY : ∀ W, Calls Tryz.prog 55 #[.int .i64 y] W (RetE (de y) W)) (hP : ∀ W, Calls Tryz.prog 58 #[deV b P, de y] W (RetE V W)) :
    Calls Tryz.prog 20 #[.int .i64 x, .int .i64 y] w (RetE V w) := by
  obtain ⟨r, Q, rfl⟩ := hV
  obtain ⟨W, hW⟩ : ∃ W, W = w.alloc zeroDe := ⟨_, rfl⟩
  have K2 := Lib.hid (show Blk W w.heap.size 39 [.bool false, .int .u64 0, .int .u64 0, .int .u64 0, .int .u64 0] by rw [hW]; exact blk_new0 w 39 [.bool false, .int .u64 0, .int .u64 0, .int .u64 0, .int .u64 0])
  have EW := Lib.hid (show Ext w W by rw [hW]; exact ext1 _ _)
  have HWW := Lib.hid hW; clear hW
  have HX := Lib.hid hX; have HT := Lib.hid hT; have HM := Lib.hid hM; have HY := Lib.hid hY; have HP := Lib.hid hP
  clear hX hT hM hY hP
  have l2 := K2.out.lt
  go_enter Tryz.func20, Tryz.ntmps20
  go_upto_region 1 with fail
  rw [← HWW.out]
  go_wp2_with (fail)
  go_at_call 55
  refine (HX.out _).mono ?_
  rintro e w1 ⟨rfl, hE⟩
  have E1 := Lib.hid hE; clear hE
  go_upto_region 2 with fail
  obtain ⟨W1, hW1⟩ : ∃ W1, W1 = w1.alloc (.cells #[.bool b, .int .u64 k0, .int .u64 k1, .int .u64 k2, .int .u64 k3] 39) := ⟨_, rfl⟩
  have K5 := Lib.hid (show Blk W1 w1.heap.size 39 [.bool b, .int .u64 k0, .int .u64 k1, .int .u64 k2, .int .u64 k3] by rw [hW1]; exact blk_new0 w1 39 [.bool b, .int .u64 k0, .int .u64 k1, .int .u64 k2, .int .u64 k3])
  have EW1 := Lib.hid (show Ext W W1 by rw [hW1]; exact E1.out.trans' (ext1 _ _))
  have HWW1 := Lib.hid hW1; clear hW1
  rw [← HWW1.out]
  have hq := E1.out.size
  generalize w1.heap.size = q at *
  go_cut [5] (fun s5 wx => OfBox b P W s5 wx)
  case first =>
    obtain ⟨a0, a1, a2, a3, a4, la⟩ := five_cells K5.out
    go_region_law (first | (go_simp; go_at_call 57; refine (HT.out _).mono ?_; rintro e w2 ⟨rfl, hE⟩; have HE2 := Lib.hid (show Ext W1 w2 from Ext.undrew hE); have k2 := Lib.hid (K5.out.ext HE2.out); obtain ⟨c0, c1, c2, c3, c4, lc⟩ := five_cells k2.out; clear hE) | (go_simp; go_at_call 56; refine (HM.out _).mono ?_; rintro e w3 ⟨rfl, hE⟩; have HE3 := Lib.hid (HE2.out.trans' hE); have k3 := Lib.hid (K5.out.ext HE3.out); obtain ⟨d0, d1, d2, d3, d4, ld⟩ := five_cells k3.out; obtain ⟨f0, f1, f2, f3, f4⟩ := five_frozen k3.out; clear hE))
    all_goals (go_wp2_with fail; go_meet)
    all_goals exact ofBox_end k3.out (EW1.out.trans' HE3.out) hq
  case rest =>
    obtain ⟨q', rfl, hk, hE, hq'⟩ := hcut
    have KQ := Lib.hid hk; have HE := Lib.hid hE
    have KZ := Lib.hid (K2.out.ext hE)
    have hne : q' ≠ w.heap.size := by have := K2.out.lt; omega
    clear hk hE
    have KS0 := Lib.hid (show wc.cell? ⟨q', 0, none⟩ = some (.bool b) ∧ wc.cell? ⟨q', 1, none⟩ = some (dw P 0) ∧ wc.cell? ⟨q', 2, none⟩ = some (dw P 1) ∧ wc.cell? ⟨q', 3, none⟩ = some (dw P 2) ∧ wc.cell? ⟨q', 4, none⟩ = some (dw P 3) from by
      obtain ⟨a0, a1, a2, a3, a4, _⟩ := five_cells KQ.out
      exact ⟨a0, a1, a2, a3, a4⟩)
    obtain ⟨a0, a1, a2, a3, a4⟩ := KS0.out
    have lq := KQ.out.lt
    go_upto_region 3 with fail
    go_region_law (first | (go_simp; go_at_call 55; refine (HY.out _).mono ?_; rintro e w4 ⟨rfl, hE⟩; have HE4 := Lib.hid (show Ext wc w4 from Ext.undrew hE); have k4 := Lib.hid (KQ.out.ext HE4.out); obtain ⟨c0, c1, c2, c3, c4, lc⟩ := five_cells k4.out; clear hE) | (go_simp; go_at_call 58; refine (HP.out _).mono ?_; rintro e w5 ⟨rfl, hE⟩; have HE5 := Lib.hid (HE4.out.trans' hE); have kz := Lib.hid (KZ.out.ext HE5.out); obtain ⟨z0, z1, z2, z3, z4, lz⟩ := five_cells kz.out; obtain ⟨f0, f1, f2, f3, f4⟩ := five_frozen kz.out; clear hE))
    all_goals go_wp2
    all_goals exact bodyPost_ret (v := deV r Q) (by simp [results, Tryz.results20, go_sem, z0, z1, z2, z3, z4]) rfl ⟨rfl, Only.ext ((EW.out.trans' HE.out).trans' HE5.out) ((Only.refl _ _).five _ _ _ _ _) (by omega)⟩
theorem decW_abs {x y : Int} (h1 : -9223372036854775808 ≤ x) (h2 : x ≤ 9223372036854775807) (h3 : -1000000000000000000 < y) (h4 : y < 1000000000000000000) : (x * T18).natAbs = x.natAbs * 10 ^ 18 ∧ x.natAbs < B64 ∧ (x * T18).natAbs + y.natAbs < B64 ^ 2 := by
  have e : (x * T18).natAbs = x.natAbs * 10 ^ 18 := by rw [Int.natAbs_mul]; rfl
  refine ⟨e, by unfold B64; omega, ?_⟩
  rw [e]
  unfold B64; omega
theorem decB_abs {x y : Int} (h : DecB x y) : (x * T18).natAbs = x.natAbs * 10 ^ 18 ∧ x.natAbs < B64 ∧ (x * T18).natAbs + y.natAbs < B64 ^ 2 := by
  obtain ⟨⟨h1, h2⟩, h3, h4⟩ := h
  exact decW_abs (by omega) (by omega) h3 h4
theorem b64_24 : B64 ^ 2 ≤ B64 ^ 4 := Nat.pow_le_pow_right B64_pos (by omega)
theorem sOfW (x y : Int) (w : World) (h1 : -9223372036854775808 ≤ x) (h2 : x ≤ 9223372036854775807) (h3 : -1000000000000000000 < y) (h4 : y < 1000000000000000000) : Calls Tryz.prog 20 #[.int .i64 x, .int .i64 y] w (RetE (de (decV x y)) w) := by
  obtain ⟨e, hx, hs⟩ := decW_abs h1 h2 h3 h4
  have h24 := b64_24
  have e2 : de (x * T18) = deV (decide (x < 0)) (x.natAbs * 10 ^ 18) := by
    unfold de; rw [e]; congr 2
    have : (x * T18 < 0) ↔ x < 0 := by unfold T18; omega
    simp [this]
  refine sOfG x y _ _ _ _ (x.natAbs * 10 ^ 18) (10 ^ 18) (decide (x < 0)) _ w ⟨_, _, rfl⟩ (fun W => sInt x W (by omega) (by omega)) (fun W => sTen 18 W (by omega)) (fun W => nTimes _ _ W (Nat.lt_of_lt_of_le hx ?_)) (fun W => sInt y W (by omega) (by omega)) (fun W => ?_)
  · have := Nat.pow_le_pow_right B64_pos (show 1 ≤ 4 by omega)
    rwa [Nat.pow_one] at this
  · rw [← e2]
    exact sPlus _ _ W (Nat.lt_of_lt_of_le hs h24)
theorem sOf (x y : Int) (w : World) (h : DecB x y) : Calls Tryz.prog 20 #[.int .i64 x, .int .i64 y] w (RetE (de (decV x y)) w) := by
  obtain ⟨⟨h1, h2⟩, h3, h4⟩ := h
  exact sOfW x y w (by omega) (by omega) h3 h4
end Go.Proofs.YtcoffndnfaemoaaGreatDoor

namespace Go.Proofs.YtcoffndnfaemoaaGreatDoor
open Go Go.RowKit

/-- The cells of a decimal coin of the specification; of a list. -/
def dcell6 (x : ByteArray × Int) : List Value := [.string x.1, .bool (decide (x.2 < 0)), dw x.2.natAbs 0, dw x.2.natAbs 1, dw x.2.natAbs 2, dw x.2.natAbs 3]
def flat6 (l : List (ByteArray × Int)) : List Value := l.flatMap dcell6
theorem flat6_length (l : List (ByteArray × Int)) : (flat6 l).length = l.length * 6 := by
  unfold flat6
  induction l with
  | nil => rfl
  | cons a l ih => simp only [List.flatMap_cons, List.length_append, ih, List.length_cons, dcell6, List.length_nil]; omega
theorem flat6_append (l m : List (ByteArray × Int)) : flat6 (l ++ m) = flat6 l ++ flat6 m := by simp [flat6]
theorem flat6_get (l : List (ByteArray × Int)) (j i : Nat) (h : j < l.length) (hi : i < 6) : (flat6 l)[j * 6 + i]? = (dcell6 l[j])[i]? := by
  induction l generalizing j with
  | nil => simp at h
  | cons a l ih =>
    show (dcell6 a ++ flat6 l)[j * 6 + i]? = _
    cases j with
    | zero => rw [List.getElem?_append_left (by simp [dcell6]; omega), Nat.zero_mul, Nat.zero_add]; rfl
    | succ j =>
      rw [List.getElem?_append_right (by simp [dcell6]; omega), show (j + 1) * 6 + i - (dcell6 a).length = j * 6 + i by simp [dcell6]; omega, ih j (by simpa using h)]
      rfl
/-- Where a list of them can be read. -/
def DeAt (w : World) (A : Option Addr) (l : List (ByteArray × Int)) : Prop :=
  l ≠ [] → ∃ g o, A = some ⟨g, o, none⟩ ∧ ∀ j (h : j < l.length), ∀ i u, (dcell6 l[j])[i]? = some u → w.cell? ⟨g, o + j * 6 + i, none⟩ = some u
theorem DeAt.ext {w w' : World} {A : Option Addr} {l : List (ByteArray × Int)} (h : DeAt w A l) (e : Ext w w') : DeAt w' A l := fun hn => by
  obtain ⟨g, o, ha, hc⟩ := h hn
  exact ⟨g, o, ha, fun j hj i u hu => e.cell' (hc j hj i u hu)⟩
theorem DeAt.nil (w : World) (A : Option Addr) : DeAt w A [] := fun h => absurd rfl h
/-- One of a list, read. -/
theorem de_get {w : World} {g o : Nat} {l : List (ByteArray × Int)} {k : Nat} {s : ByteArray} {z : Int} (hk : k < l.length) (hc : ∀ j (h : j < l.length), ∀ i u, (dcell6 l[j])[i]? = some u → w.cell? ⟨g, o + j * 6 + i, none⟩ = some u) (he : l[k] = (s, z)) :
    w.cell? ⟨g, o + k * 6, none⟩ = some (.string s) ∧ w.cell? ⟨g, o + k * 6 + 1, none⟩ = some (.bool (decide (z < 0))) ∧ w.cell? ⟨g, o + k * 6 + 2, none⟩ = some (dw z.natAbs 0) ∧ w.cell? ⟨g, o + k * 6 + 3, none⟩ = some (dw z.natAbs 1) ∧ w.cell? ⟨g, o + k * 6 + 4, none⟩ = some (dw z.natAbs 2) ∧ w.cell? ⟨g, o + k * 6 + 5, none⟩ = some (dw z.natAbs 3) := by
  have h := hc k hk
  rw [he] at h
  exact ⟨h 0 _ rfl, h 1 _ rfl, h 2 _ rfl, h 3 _ rfl, h 4 _ rfl, h 5 _ rfl⟩
/-- A row of the call's own. -/
def DeOwn (w : World) (base : Nat) (v : Value) (l : List (ByteArray × Int)) : Prop := w.ownsRow base 53 6 v l.length (flat6 l)
theorem DeOwn.nil (w : World) (base : Nat) : DeOwn w base (.slice none 0 0) [] := World.ownsRow_nil _ _ _ _
theorem DeOwn.ext {w w' : World} {base : Nat} {v : Value} {l : List (ByteArray × Int)} (h : DeOwn w base v l) (e : Ext w w') : DeOwn w' base v l := owns_ext h e
theorem deAt_of_owns {w : World} {base : Nat} {A : Option Addr} {n c : Nat} {l : List (ByteArray × Int)} (_hl : l.length = n) (h : DeOwn w base (.slice A n c) l) : DeAt w A l := fun hn => by
  have hp : 0 < l.length := List.length_pos_iff.2 hn
  obtain ⟨g, cap, hv, _, _⟩ := World.ownsRow.form h (by omega)
  have hA : A = some ⟨g, 0, none⟩ := by injection hv
  subst hA
  have hc := World.ownsRow.cells h (g := g) rfl
  refine ⟨g, 0, rfl, fun j hj i u hu => ?_⟩
  have hi : i < 6 := by
    have := (List.getElem?_eq_some_iff.1 hu).1
    simpa [dcell6] using this
  have c1 := hc (j * 6 + i) u (by rw [flat6_get l j i hj hi]; exact hu)
  simp only [Addr.add] at c1
  rw [Nat.zero_add]
  split at c1 <;> simp_all
theorem de_slice {w : World} {base n : Nat} {v : Value} {l : List (ByteArray × Int)} (h : DeOwn w base v l) (hl : l.length = n) : ∃ A c, v = .slice A n c ∧ n ≤ c ∧ DeAt w A l := by
  rcases (show w.ownsRow base 53 6 v l.length (flat6 l) from h).2 with ⟨rfl, h0⟩ | ⟨g, cap, _, hv, _, _, hn, _⟩
  · have : l = [] := List.eq_nil_of_length_eq_zero h0
    subst this
    subst hl
    exact ⟨none, 0, rfl, Nat.le_refl _, DeAt.nil _ _⟩
  · subst hv; subst hl
    exact ⟨_, cap, rfl, hn, deAt_of_owns rfl h⟩
theorem de_push {w w1 w2 : World} {v v' : Value} {l : List (ByteArray × Int)} {x : ByteArray × Int} (h : DeOwn w1 w.heap.size v l) (e : Ext w w1)
    (hown : w2.ownsRow w.heap.size 53 6 v' (l.length + 1) (flat6 l ++ dcell6 x)) (hg : w1.grownBy w2 v.ownBlock) :
    DeOwn w2 w.heap.size v' (l ++ [x]) ∧ Ext w w2 := by
  refine ⟨?_, ext_grown e h hg⟩
  unfold DeOwn
  rw [List.length_append, flat6_append, show flat6 [x] = dcell6 x by simp [flat6]]; exact hown
/-- Handed back. -/
def RetDe (l : List (ByteArray × Int)) (w : World) (e : Ending) (w' : World) : Prop := ∃ v, e = .returned v ∧ DeOwn w' w.heap.size v l ∧ Ext w w'
theorem infoDe : (Tryz.prog.info? 53).map (fun i => (i.zero, i.size, i.bytes)) = some (some (.agg #[.string ByteArray.empty, .bool false, .int .u64 0, .int .u64 0, .int .u64 0, .int .u64 0]), 6, 56) := by kernel_rfl
/-- The cells of a new block. -/
theorem cells_new (W : World) (cs : List Value) (t : TypeId) : ∀ j u, cs[j]? = some u → (W.alloc (.cells cs.toArray t)).cell? ((⟨W.heap.size, 0, none⟩ : Addr).add j) = some u := by
  intro j u hu
  have h := cell_new W cs.toArray t j
  rw [List.getElem?_toArray, hu] at h
  unfold Addr.add
  split
  · next e => subst e; exact h
  · rw [Nat.zero_add]; exact h
theorem dcell6_one (x : ByteArray × Int) : ∀ u ∈ dcell6 x, u.oneCell' = true := by
  intro u hu
  simp only [dcell6, List.mem_cons, List.not_mem_nil, or_false] at hu
  rcases hu with rfl | rfl | rfl | rfl | rfl | rfl <;> rfl
theorem dcells_three {W : World} {g : Nat} {T : TypeId} {u v x : Value} (h : Blk W g T [u, v, x]) : W.cell? ⟨g, 0, none⟩ = some u ∧ W.cell? ⟨g, 1, none⟩ = some v ∧ W.cell? ⟨g, 2, none⟩ = some x ∧ g < W.heap.size :=
  ⟨(h.cell 0).trans rfl, (h.cell 1).trans rfl, (h.cell 2).trans rfl, cell_lt ((h.cell 0).trans rfl)⟩

set_option maxRecDepth 100000 in
set_option maxHeartbeats 2000000 in
theorem lDeciOf (A : Option Addr) (n c : Nat) (l : List DP) (w : World) (hl : l.length = n) (hn : n ≤ 100000) (h : DPlainAt w A l) (hz : ∀ x ∈ l, DecB x.2.1 x.2.2) :
    Calls Tryz.prog 19 #[.slice A n c] w (RetDe (l.map dval) w) := by
  obtain ⟨i0, hi, hz0, hz1, hz2⟩ := info_parts infoDe
  have HL := Lib.hid hl; have HP := Lib.hid h; have HZ := Lib.hid hz
  clear hl h hz
  go_enter Tryz.func19, Tryz.ntmps19
  go_wp2
  go_loopw [3, 8] (fun v i wr => ∃ (k : Nat) (cs : List (ByteArray × Int)), k ≤ n ∧ i = .int .i64 k ∧ cs.length = k ∧ cs = (l.map dval).take k ∧ DeOwn wr w.heap.size v cs ∧ Ext w wr) (fun _ i _ => n - (intOf i).toNat)
  case atStart => exact ⟨0, [], Nat.zero_le _, rfl, rfl, rfl, DeOwn.nil _ _, Ext.refl _⟩
  case round =>
    obtain ⟨k, cs, hk, rfl, hcl, hcv, hown, hE⟩ := hrel
    have HC := Lib.hid hcl; have HV := Lib.hid hcv; have HO := Lib.hid hown; have HE := Lib.hid hE
    clear hcl hcv hown hE
    by_cases hlt : k < n
    · have hkl : k < l.length := by rw [HL.out]; exact hlt
      obtain ⟨s, hs⟩ : ∃ s, s = l[k].1 := ⟨_, rfl⟩
      obtain ⟨x, hxx⟩ : ∃ x, x = l[k].2.1 := ⟨_, rfl⟩
      obtain ⟨y, hyy⟩ : ∃ y, y = l[k].2.2 := ⟨_, rfl⟩
      obtain ⟨z, hzz⟩ : ∃ z, z = decV x y := ⟨_, rfl⟩
      have HD := Lib.hid (show DecB x y by rw [hxx, hyy]; exact HZ.out _ (List.getElem_mem _))
      obtain ⟨g, o, hA, hc⟩ := HP.out (by intro e; have := congrArg List.length e; simp at this; rw [this] at hkl; simp at hkl)
      subst hA
      have hck := hc k (by simpa using hkl)
      have cs0 : wr.cell? ⟨g, o + k * 3, none⟩ = some (.string s) := HE.out.cell' (by rw [hck.1, hs]; simp [dplain])
      have cs1 : wr.cell? ⟨g, o + k * 3 + 1, none⟩ = some (.int .i64 x) := HE.out.cell' (by rw [hck.2.1, hxx]; simp [dplain])
      have cs2 : wr.cell? ⟨g, o + k * 3 + 2, none⟩ = some (.int .i64 y) := HE.out.cell' (by rw [hck.2.2, hyy]; simp [dplain])
      have HS := Lib.hid (show dval l[k] = (s, z) by rw [hs, hzz, hxx, hyy]; rfl); have HZZ := Lib.hid hzz; clear hs hzz hxx hyy hck hc
      have HF := Lib.hid (fun W => sOf x y W HD.out)
      rw [← HZZ.out] at HF
      go_wp2
      go_region_law (first | (refine step_append_lies _ rfl (.tmp 12) (.tmp 23) 32 rfl w.heap.size 53 i0 _ 6 56 Tryz.underlying32 hi hz0 hz1 hz2 rfl (by decide) u3 cs.length (flat6 cs) rfl (owns_ext (HO.out.ext HE1.out) (ext1 _ _)) ⟨w1.heap.size, 0, none⟩ 1 1 (dcell6 (s, z)) rfl rfl (cells_new _ _ _) (dcell6_one _) (by decide) (by have := HC.out; unfold maxLen; omega) (by have := HC.out; omega) (by have := HE.out.size; have := HE1.out.size; simp; omega) _ rfl ?_; intro g2 cap w2 hown hgrow _ _; have R := Lib.hid (de_push ((HO.out.ext HE1.out).ext (ext1 _ _)) ((HE.out.trans' HE1.out).trans' (ext1 _ _)) hown hgrow); clear hown hgrow) | (go_simp; go_at_call 20; refine (HF.out _).mono ?_; rintro e w1 ⟨rfl, hE⟩; have HE1 := Lib.hid ((Ext.alloc' wr (dpBox s x y)).trans' (Ext.undrew hE)); have kb := (blk_new0 wr 48 [.string s, .int .i64 x, .int .i64 y]).ext (Ext.undrew hE); obtain ⟨c0, c1, c2, hl1⟩ := dcells_three kb; clear hE kb))
      all_goals go_wp2
      all_goals exact ⟨⟨k + 1, cs ++ [(s, z)], by omega, by go_num, by simp [HC.out], by rw [HV.out, List.take_succ_eq_append_getElem (by simpa using hkl), List.getElem_map, HS.out], R.out.1, R.out.2⟩, by simp [intOf]; omega⟩
    · obtain rfl : k = n := by omega
      go_wp2
      go_ret
      exact ⟨_, rfl, by have := HO.out; rw [HV.out, List.take_of_length_le (by simp [HL.out])] at this; exact this, HE.out⟩
end Go.Proofs.YtcoffndnfaemoaaGreatDoor

namespace Go.Proofs.YtcoffndnfaemoaaGreatDoor
open Go Go.RowKit

set_option maxRecDepth 100000 in
set_option maxHeartbeats 4000000 in
theorem sDeDenom (s : ByteArray) (w : World) (hs : s.size ≤ 9223372036854775807) : Calls Tryz.prog 29 #[.string s] w fun e w' => e = .returned (.bool (denomB s)) ∧ w' = w := by
  by_cases h1 : s.size < 3
  · have F := Lib.hid (denomB_short h1)
    have d1 : decide (s.size < 3) = true := by simpa using h1
    go_enter Tryz.func29, Tryz.ntmps29
    go_wp2
    go_ret
    rw [F.out]; exact ⟨rfl, rfl⟩
  · by_cases h2 : 128 < s.size
    · have F := Lib.hid (denomB_long h2)
      have d1 : decide (s.size < 3) = false := by simpa using h1
      have d2 : decide (128 < s.size) = true := by simpa using h2
      go_enter Tryz.func29, Tryz.ntmps29
      go_wp2
      go_ret
      rw [F.out]; exact ⟨rfl, rfl⟩
    · have d1 : decide (s.size < 3) = false := by simpa using h1
      have d2 : decide (128 < s.size) = false := by simpa using h2
      go_enter Tryz.func29, Tryz.ntmps29
      go_wp2
      go_loop [16] (fun i => ∃ k : Nat, k ≤ s.size ∧ i = .int .i64 k ∧ ∀ j, (h : j < s.size) → j < k → okAt j s[j].toNat = true) (fun i => s.size - (intOf i).toNat)
      case atStart => exact ⟨0, Nat.zero_le _, rfl, fun j hj h => by omega⟩
      case round =>
        obtain ⟨k, hk, rfl, hq⟩ := hrel
        have HQ := Lib.hid hq; clear hq
        by_cases hlt : k < s.size
        · obtain ⟨v, hv⟩ : ∃ v : Nat, s[k].toNat = v := ⟨_, rfl⟩
          have hrunk : ∀ W, (Instr.index 9 (.string s) (.int .i64 (k : Int))).run Tryz.prog W = .ok (.int .u8 (v : Int)) W := fun W => by subst hv; simp [go_sem, hlt]
          have HV := Lib.hid hv; clear hv
          rcases (show (97 ≤ v ∧ v ≤ 122) ∨ (65 ≤ v ∧ v ≤ 90) ∨ 122 < v ∨ (90 < v ∧ v < 97) ∨ (57 < v ∧ v < 65) ∨ (48 ≤ v ∧ v ≤ 57) ∨ v < 48 by omega) with hc | hc | hc | hc | hc | hc | hc
          · have F0 : okAt k v = true := okAt_letter (by unfold letterN; simp; omega)
            have F := Lib.hid F0; clear F0
            have L1 : decide ((97 : Int) ≤ (v : Int)) = true := by simp; omega
            have L2 : decide ((v : Int) ≤ 122) = true := by simp; omega
            go_wp2
            go_round
            · exact ⟨k + 1, by omega, by go_num, ok_step HQ.out HV.out (F.out)⟩
            · simp [intOf]; omega
          · have F0 : okAt k v = true := okAt_letter (by unfold letterN; simp; omega)
            have F := Lib.hid F0; clear F0
            have L1 : decide ((97 : Int) ≤ (v : Int)) = false := by simp; omega
            have L3 : decide ((65 : Int) ≤ (v : Int)) = true := by simp; omega
            have L4 : decide ((v : Int) ≤ 90) = true := by simp; omega
            go_wp2
            go_round
            · exact ⟨k + 1, by omega, by go_num, ok_step HQ.out HV.out (F.out)⟩
            · simp [intOf]; omega
          · have HL0 : letterN v = false := by unfold letterN; simp; omega
            have HL := Lib.hid HL0; clear HL0
            have L1 : decide ((97 : Int) ≤ (v : Int)) = true := by simp; omega
            have L2 : decide ((v : Int) ≤ 122) = false := by simp; omega
            have L3 : decide ((65 : Int) ≤ (v : Int)) = true := by simp; omega
            have L4 : decide ((v : Int) ≤ 90) = false := by simp; omega
            have D1 : decide ((v : Int) < 48) = false := by simp; omega
            have D2 : decide ((57 : Int) < (v : Int)) = true := by simp; omega
            by_cases e0 : k = 0
            · have e0' : ((k : Int) == 0) = true := by simp; omega
              have F := Lib.hid (denomB_false _ hlt (by rw [HV.out]; exact okAt_zero e0 HL.out))
              clear e0
              go_wp2
              go_ret
              rw [F.out]; exact ⟨rfl, rfl⟩
            · have e0' : ((k : Int) == 0) = false := by simp; omega
              have m47 : ((v : Int) != 47) = true := by simp; omega
              have m58 : ((v : Int) != 58) = true := by simp; omega
              have m46 : ((v : Int) != 46) = true := by simp; omega
              have m95 : ((v : Int) != 95) = true := by simp; omega
              have m45 : ((v : Int) != 45) = true := by simp; omega
              have F := Lib.hid (denomB_false _ hlt (by rw [HV.out]; exact okAt_not (by omega) (restN_false (by rw [HL.out]; simp) (by omega))))
              go_wp2
              go_ret
              rw [F.out]; exact ⟨rfl, rfl⟩
          · have HL0 : letterN v = false := by unfold letterN; simp; omega
            have HL := Lib.hid HL0; clear HL0
            have L1 : decide ((97 : Int) ≤ (v : Int)) = false := by simp; omega
            have L3 : decide ((65 : Int) ≤ (v : Int)) = true := by simp; omega
            have L4 : decide ((v : Int) ≤ 90) = false := by simp; omega
            have D1 : decide ((v : Int) < 48) = false := by simp; omega
            have D2 : decide ((57 : Int) < (v : Int)) = true := by simp; omega
            by_cases e0 : k = 0
            · have e0' : ((k : Int) == 0) = true := by simp; omega
              have F := Lib.hid (denomB_false _ hlt (by rw [HV.out]; exact okAt_zero e0 HL.out))
              clear e0
              go_wp2
              go_ret
              rw [F.out]; exact ⟨rfl, rfl⟩
            · have e0' : ((k : Int) == 0) = false := by simp; omega
              by_cases n95 : v = 95
              · subst n95
                go_wp2
                go_round
                · exact ⟨k + 1, by omega, by go_num, ok_step HQ.out HV.out (okAt_rest (by omega) (restN_other (by omega)))⟩
                · simp [intOf]; omega
              have m95 : ((v : Int) != 95) = true := by simp; omega
              have m47 : ((v : Int) != 47) = true := by simp; omega
              have m58 : ((v : Int) != 58) = true := by simp; omega
              have m46 : ((v : Int) != 46) = true := by simp; omega
              have m45 : ((v : Int) != 45) = true := by simp; omega
              have F := Lib.hid (denomB_false _ hlt (by rw [HV.out]; exact okAt_not (by omega) (restN_false (by rw [HL.out]; simp) (by omega))))
              go_wp2
              go_ret
              rw [F.out]; exact ⟨rfl, rfl⟩
          · have HL0 : letterN v = false := by unfold letterN; simp; omega
            have HL := Lib.hid HL0; clear HL0
            have L1 : decide ((97 : Int) ≤ (v : Int)) = false := by simp; omega
            have L3 : decide ((65 : Int) ≤ (v : Int)) = false := by simp; omega
            have D1 : decide ((v : Int) < 48) = false := by simp; omega
            have D2 : decide ((57 : Int) < (v : Int)) = true := by simp; omega
            by_cases e0 : k = 0
            · have e0' : ((k : Int) == 0) = true := by simp; omega
              have F := Lib.hid (denomB_false _ hlt (by rw [HV.out]; exact okAt_zero e0 HL.out))
              clear e0
              go_wp2
              go_ret
              rw [F.out]; exact ⟨rfl, rfl⟩
            · have e0' : ((k : Int) == 0) = false := by simp; omega
              by_cases n58 : v = 58
              · subst n58
                go_wp2
                go_round
                · exact ⟨k + 1, by omega, by go_num, ok_step HQ.out HV.out (okAt_rest (by omega) (restN_other (by omega)))⟩
                · simp [intOf]; omega
              have m58 : ((v : Int) != 58) = true := by simp; omega
              have m47 : ((v : Int) != 47) = true := by simp; omega
              have m46 : ((v : Int) != 46) = true := by simp; omega
              have m95 : ((v : Int) != 95) = true := by simp; omega
              have m45 : ((v : Int) != 45) = true := by simp; omega
              have F := Lib.hid (denomB_false _ hlt (by rw [HV.out]; exact okAt_not (by omega) (restN_false (by rw [HL.out]; simp) (by omega))))
              go_wp2
              go_ret
              rw [F.out]; exact ⟨rfl, rfl⟩
          · have HL0 : letterN v = false := by unfold letterN; simp; omega
            have HL := Lib.hid HL0; clear HL0
            have L1 : decide ((97 : Int) ≤ (v : Int)) = false := by simp; omega
            have L3 : decide ((65 : Int) ≤ (v : Int)) = false := by simp; omega
            have D1 : decide ((v : Int) < 48) = false := by simp; omega
            have D2 : decide ((57 : Int) < (v : Int)) = false := by simp; omega
            by_cases e0 : k = 0
            · have e0' : ((k : Int) == 0) = true := by simp; omega
              have F := Lib.hid (denomB_false _ hlt (by rw [HV.out]; exact okAt_zero e0 HL.out))
              clear e0
              go_wp2
              go_ret
              rw [F.out]; exact ⟨rfl, rfl⟩
            · have e0' : ((k : Int) == 0) = false := by simp; omega
              go_wp2
              go_round
              · exact ⟨k + 1, by omega, by go_num, ok_step HQ.out HV.out (okAt_rest (by omega) (restN_other (by omega)))⟩
              · simp [intOf]; omega
          · have HL0 : letterN v = false := by unfold letterN; simp; omega
            have HL := Lib.hid HL0; clear HL0
            have L1 : decide ((97 : Int) ≤ (v : Int)) = false := by simp; omega
            have L3 : decide ((65 : Int) ≤ (v : Int)) = false := by simp; omega
            have D1 : decide ((v : Int) < 48) = true := by simp; omega
            by_cases e0 : k = 0
            · have e0' : ((k : Int) == 0) = true := by simp; omega
              have F := Lib.hid (denomB_false _ hlt (by rw [HV.out]; exact okAt_zero e0 HL.out))
              clear e0
              go_wp2
              go_ret
              rw [F.out]; exact ⟨rfl, rfl⟩
            · have e0' : ((k : Int) == 0) = false := by simp; omega
              by_cases n47 : v = 47
              · subst n47
                go_wp2
                go_round
                · exact ⟨k + 1, by omega, by go_num, ok_step HQ.out HV.out (okAt_rest (by omega) (restN_other (by omega)))⟩
                · simp [intOf]; omega
              have m47 : ((v : Int) != 47) = true := by simp; omega
              by_cases n46 : v = 46
              · subst n46
                go_wp2
                go_round
                · exact ⟨k + 1, by omega, by go_num, ok_step HQ.out HV.out (okAt_rest (by omega) (restN_other (by omega)))⟩
                · simp [intOf]; omega
              have m46 : ((v : Int) != 46) = true := by simp; omega
              by_cases n45 : v = 45
              · subst n45
                go_wp2
                go_round
                · exact ⟨k + 1, by omega, by go_num, ok_step HQ.out HV.out (okAt_rest (by omega) (restN_other (by omega)))⟩
                · simp [intOf]; omega
              have m45 : ((v : Int) != 45) = true := by simp; omega
              have m58 : ((v : Int) != 58) = true := by simp; omega
              have m95 : ((v : Int) != 95) = true := by simp; omega
              have F := Lib.hid (denomB_false _ hlt (by rw [HV.out]; exact okAt_not (by omega) (restN_false (by rw [HL.out]; simp) (by omega))))
              go_wp2
              go_ret
              rw [F.out]; exact ⟨rfl, rfl⟩
        · obtain rfl : k = s.size := by omega
          have F := Lib.hid (denomB_true (s := s) (by omega) (by omega) (fun j h => HQ.out j h h))
          go_wp2
          go_ret
          rw [F.out]; exact ⟨rfl, rfl⟩
end Go.Proofs.YtcoffndnfaemoaaGreatDoor
