/-
  The contract of nat's cmp.
-/
import Derived.Test.YtagfbefgcijegaaGreatDoorNat
namespace Go.Proofs.YtagfbefgcijegaaGreatDoor
open Go Go.RowKit

/-- A value handed back, draws alone in the world. -/
def RetQ (v : Value) (w : World) (e : Ending) (w' : World) : Prop := e = .returned v ∧ ∃ n, w' = w.drewN n

theorem cmpZ_lt {a b : Nat} (h : a < b) : cmpZ a b = -1 := by unfold cmpZ; rw [if_pos (by omega)]
theorem cmpZ_gt {a b : Nat} (h : b < a) : cmpZ a b = 1 := by unfold cmpZ; rw [if_neg (by omega), if_pos (by omega)]
theorem cmpZ_eq (a : Int) : cmpZ a a = 0 := by unfold cmpZ; rw [if_neg (by omega), if_neg (by omega)]

set_option maxRecDepth 100000 in
set_option maxHeartbeats 400000 in
theorem natCmp (A B : Option Addr) (ca cb : Nat) (xs ys : List Nat) (w : World) (hx : Words w A xs) (hy : Words w B ys) (hNx : Norm xs) (hNy : Norm ys) (hn : xs.length ≤ 1000000) (hm : ys.length ≤ 1000000) :
    Calls Tryz.prog 196 #[.slice A xs.length ca, .slice B ys.length cb] w (RetQ (.int .i64 (cmpZ (natOf xs) (natOf ys))) w) := by
  obtain ⟨m, hml⟩ : ∃ m, xs.length = m := ⟨_, rfl⟩
  obtain ⟨n, hnl⟩ : ∃ n, ys.length = n := ⟨_, rfl⟩
  rw [hml, hnl]; rw [hml] at hn; rw [hnl] at hm
  rcases Nat.lt_trichotomy m n with h | h | h
  · have F := Lib.hid (cmpZ_lt (natOf_lt_len hNy hx.1 (by omega)))
    clear hx hy hml hnl hNx hNy
    have e : ((m : Int) != n) = true := by simp; omega
    have e' : decide ((m : Int) < n) = true := by simp; omega
    go_enter Tryz.func196, Tryz.ntmps196
    go_wp2
    go_ret
    rw [F.out]; exact ⟨rfl, 0, rfl⟩
  · subst h
    rcases Nat.eq_zero_or_pos m with h0 | h0
    · subst h0
      obtain rfl := List.eq_nil_of_length_eq_zero hml
      obtain rfl := List.eq_nil_of_length_eq_zero hnl
      clear hx hy hml hnl hNx hNy
      have F := Lib.hid (cmpZ_eq (natOf []))
      go_enter Tryz.func196, Tryz.ntmps196
      go_wp2
      go_ret
      rw [F.out]; exact ⟨rfl, 0, rfl⟩
    · obtain ⟨bx, ox, rfl, hxc⟩ := hx.get (by intro h; subst h; simp at hml; omega)
      obtain ⟨by_, oy, rfl, hyc⟩ := hy.get (by intro h; subst h; simp at hnl; omega)
      have HXL := Lib.hid hml; have HYL := Lib.hid hnl; have HX := Lib.hid hx.1; have HY := Lib.hid hy.1; have HXC := Lib.hid hxc; have HYC := Lib.hid hyc
      clear hml hnl hx hy hxc hyc hNx hNy
      have e0 : ((m : Int) == 0) = false := by simp; omega
      go_enter Tryz.func196, Tryz.ntmps196
      go_wp2
      go_loopw [7] (fun i wr => ∃ (k q : Nat), k < m ∧ i = .int .i64 k ∧ wr = w.drewN q ∧ xs.drop (k + 1) = ys.drop (k + 1)) (fun i _ => (intOf i).toNat)
      case atStart => exact ⟨m - 1, 0, by omega, by go_num, rfl, by rw [List.drop_of_length_le (by rw [HXL.out]; omega), List.drop_of_length_le (by rw [HYL.out]; omega)]⟩
      case round =>
        obtain ⟨k, q, hk, rfl, rfl, hd⟩ := hrel
        have HD := Lib.hid hd; clear hd
        have hkx : k < xs.length := by rw [HXL.out]; exact hk
        have hky : k < ys.length := by rw [HYL.out]; exact hk
        obtain ⟨x, hxk⟩ : ∃ x, x = xs[k] := ⟨_, rfl⟩
        obtain ⟨y, hyk⟩ : ∃ y, y = ys[k] := ⟨_, rfl⟩
        have cx : w.cell? ⟨bx, ox + k, none⟩ = some (.int .u64 (x : Int)) := by rw [hxk]; exact HXC.out k hkx
        have cy : w.cell? ⟨by_, oy + k, none⟩ = some (.int .u64 (y : Int)) := by rw [hyk]; exact HYC.out k hky
        have HXK := Lib.hid hxk; have HYK := Lib.hid hyk
        clear hxk hyk
        have hll : xs.length = ys.length := HXL.out.trans HYL.out.symm
        have HLL := Lib.hid hll; clear hll
        have lo0 : (0 : Int) ≤ (k : Int) := by omega
        have lo1 : (k : Int) < (m : Int) := by omega
        by_cases hkk : 0 < k ∧ x = y
        · obtain ⟨hk0, rfl⟩ := hkk
          have hgt : decide (0 < k) = true := by simpa using hk0
          go_wp2
          go_quiet (fail)
          go_wp2
          go_roundw
          case rel =>
            refine ⟨k - 1, _, by omega, by go_num, rfl, ?_⟩
            rw [show k - 1 + 1 = k by omega, List.drop_eq_getElem_cons hkx, List.drop_eq_getElem_cons hky, HD.out, ← HXK.out, ← HYK.out]
          case measure => simp [intOf]; omega
        · rcases Nat.lt_trichotomy x y with hxy | hxy | hxy
          · have F := Lib.hid (cmpZ_lt (natOf_lt_at HLL.out k hkx HD.out HX.out (by rw [← HXK.out, ← HYK.out]; exact hxy)))
            have e1 : ((x : Int) == y) = false := by simp; omega
            rcases Nat.eq_zero_or_pos k with rfl | hk0
            all_goals
              try rw [Nat.add_zero] at cx cy
              go_wp2
              go_quiet (fail)
              go_wp2
              go_quiet (fail)
              go_wp2
              go_ret
              rw [F.out]; exact ⟨rfl, by first | exact dr0 _ | exact dr1 _ _ | exact dr2 _ _ _ | exact dr3 _ _ _ _ | exact dr4 _ _ _ _ _⟩
          · obtain rfl : k = 0 := by omega
            have F := Lib.hid (show cmpZ (natOf xs) (natOf ys) = 0 by
              rw [natOf_split xs 0 hkx, natOf_split ys 0 hky, HD.out, ← HXK.out, ← HYK.out, hxy]; exact cmpZ_eq _)
            subst hxy
            rw [Nat.add_zero] at cx cy
            go_wp2
            go_quiet (fail)
            go_wp2
            go_quiet (fail)
            go_wp2
            go_quiet (fail)
            go_wp2
            go_ret
            rw [F.out]; exact ⟨rfl, by first | exact dr0 _ | exact dr1 _ _ | exact dr2 _ _ _ | exact dr3 _ _ _ _ | exact dr4 _ _ _ _ _⟩
          · have F := Lib.hid (cmpZ_gt (natOf_lt_at HLL.out.symm k hky HD.out.symm HY.out (by rw [← HXK.out, ← HYK.out]; exact hxy)))
            have e1 : ((x : Int) == y) = false := by simp; omega
            rcases Nat.eq_zero_or_pos k with rfl | hk0
            all_goals
              try rw [Nat.add_zero] at cx cy
              go_wp2
              go_quiet (fail)
              go_wp2
              go_quiet (fail)
              go_wp2
              go_quiet (fail)
              go_wp2
              go_ret
              rw [F.out]; exact ⟨rfl, by first | exact dr0 _ | exact dr1 _ _ | exact dr2 _ _ _ | exact dr3 _ _ _ _ | exact dr4 _ _ _ _ _⟩
  · have F := Lib.hid (cmpZ_gt (natOf_lt_len hNx hy.1 (by omega)))
    clear hx hy hml hnl hNx hNy
    have e : ((m : Int) != n) = true := by simp; omega
    have e' : decide ((m : Int) < n) = false := by simp; omega
    go_enter Tryz.func196, Tryz.ntmps196
    go_wp2
    go_ret
    rw [F.out]; exact ⟨rfl, 0, rfl⟩
end Go.Proofs.YtagfbefgcijegaaGreatDoor
